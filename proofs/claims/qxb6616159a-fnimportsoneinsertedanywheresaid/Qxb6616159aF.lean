import Derived.Test.Qxb6616159aE
namespace Go.Proofs.Qxb6616159a
open Go.RowKit
set_option linter.unusedSimpArgs false

/-- The interface values vs stand for the items xs, one by one. -/
def EncAll (w : World) : List Value → List It → Prop
  | [], [] => True
  | v :: vs, x :: xs => Enc w v x ∧ EncAll w vs xs
  | _, _ => False
theorem EncAll.length {w : World} : ∀ {vs : List Value} {xs : List It}, EncAll w vs xs → vs.length = xs.length
  | [], [], _ => rfl
  | _ :: _, _ :: _, h => by rw [List.length_cons, List.length_cons, EncAll.length h.2]
  | [], _ :: _, h => h.elim
  | _ :: _, [], h => h.elim
theorem EncAll.snoc {w : World} {v : Value} {x : It} (hv : Enc w v x) : ∀ {vs : List Value} {xs : List It}, EncAll w vs xs → EncAll w (vs ++ [v]) (xs ++ [x])
  | [], [], _ => ⟨hv, trivial⟩
  | _ :: _, _ :: _, h => ⟨h.1, EncAll.snoc hv h.2⟩
  | [], _ :: _, h => h.elim
  | _ :: _, [], h => h.elim
theorem EncAll.keep {S : Nat → Prop} {w w' : World} (t : Touch S w w') (hS : ∀ b x, MapOf w b x → ¬ S b) : ∀ {vs : List Value} {xs : List It}, EncAll w vs xs → EncAll w' vs xs
  | [], [], _ => trivial
  | _ :: _, _ :: _, h => ⟨h.1.keep t (fun b hb => hS b _ hb), EncAll.keep t hS h.2⟩
  | [], _ :: _, h => h.elim
  | _ :: _, [], h => h.elim
theorem EncAll.nth {w : World} : ∀ {vs : List Value} {xs : List It}, EncAll w vs xs → ∀ i, i < xs.length → ∃ v, vs[i]? = some v ∧ Enc w v (xs.getD i It.zero)
  | [], [], _ => fun i hi => by simp at hi
  | v :: vs, x :: xs, h => fun i hi => by
    cases i with
    | zero => exact ⟨v, rfl, h.1⟩
    | succ i =>
      obtain ⟨u, h1, h2⟩ := EncAll.nth h.2 i (by simpa using hi)
      exact ⟨u, by simpa using h1, by simpa [List.getD_eq_getElem?_getD] using h2⟩
  | [], _ :: _, h => h.elim
  | _ :: _, [], h => h.elim
theorem own_not_map {B : Nat} {w : World} : ∀ b x, MapOf w b x → ¬ Own B w b := fun _ _ h ⟨_, _, _, hc⟩ => h.ne hc rfl
theorem take_snoc {α : Type} (l : List α) (k : Nat) (h : k < l.length) (d : α) : l.take (k + 1) = l.take k ++ [l.getD k d] := by
  rw [List.take_succ_eq_append_getElem h, List.getD_eq_getElem?_getD, List.getElem?_eq_getElem h]
  rfl

set_option maxHeartbeats 4000000 in
theorem dependencyOf_any (a : Option Addr) (c : Nat) (xs : List It) (w : World) (hs : Items w a xs) (hn : xs.length ≤ 10000000) :
    Calls Try.prog 8 #[.slice a xs.length c] w fun e w' => ∃ d vs, e = .returned (.pointer (some ⟨d, 0, none⟩)) ∧ Dep w.heap.size w' d vs ∧ EncAll w' vs xs ∧ Below w.heap.size w w' := by
  go_enter Try.func8, Try.ntmps8
  go_wp2
  go_loopw [4, 5] (fun i _ wr => ∃ (j : Nat) (vs : List Value), j ≤ xs.length ∧ i = .int .i64 j ∧ Dep w.heap.size wr w.heap.size vs ∧ EncAll wr vs (xs.take j) ∧ Below w.heap.size w wr) (fun i _ _ => xs.length - (intOf i).toNat)
  case atStart => exact ⟨0, [], Nat.zero_le _, rfl, ⟨.slice none 0 0, _, _, _, _, _, _, _, Nat.le_refl _, heap_alloc_new w _, World.ownsRow_nil _ _ _ _⟩, trivial, (Below.refl _ _).alloc (Nat.le_refl _) _⟩
  obtain ⟨j, vs, hj, rfl, hd, hE, hb⟩ := hrel
  by_cases hlt : j < xs.length
  · have hlen := hE.length
    rw [List.length_take, Nat.min_eq_left (by omega)] at hlen
    have hnx := take_snoc xs j hlt It.zero
    obtain ⟨b, off, rfl, h0, h1, h2, h3, h4, h5⟩ := hs.below hb j hlt
    generalize hx : xs.getD j It.zero = x at *
    have al : Below wr.heap.size wr (wr.alloc (.cells #[.int .i64 x.k, .string x.t, .int .i64 x.ck, .string x.c, .int .i64 x.pk, .string x.p] 26)) := (Below.refl _ _).alloc (Nat.le_refl _) _
    have ta := Touch.of_below (S := fun _ => False) al
    have hd1 := hd.keep ta (by simp)
    have hE1 := hE.keep ta (by simp)
    have hb1 := below_chain hb al
    have hsz : w.heap.size ≤ (wr.alloc (.cells #[.int .i64 x.k, .string x.t, .int .i64 x.ck, .string x.c, .int .i64 x.pk, .string x.p] 26)).heap.size := hb1.size
    by_cases hk0 : x.k = 0
    · have e0 : (x.k == 0) = true := by simp [hk0]
      have HK := hide hk0
      clear hk0
      go_wp2_with fail
      refine (addString_any w.heap.size w.heap.size vs x.t _ hd1 hsz (by omega)).mono ?_
      rintro e W2 ⟨rfl, hd2, t2⟩
      have hv : Enc W2 (.iface 9 (.string x.t)) x := .inl ⟨HK.out, rfl⟩
      have hb2 := hb1.trans (t2.toBelow (fun k h => h.1) hb1.size)
      have hE2 := (hE1.keep t2 own_not_map).snoc hv
      rw [← hnx] at hE2
      clear t2 hd1 hE1 hb1 ta al hE hd
      go_wp2
      go_roundw
      case rel => exact ⟨j + 1, _, by omega, by go_num, hd2, hE2, hb2⟩
      case measure => simp [intOf]; omega
    · have e0 : (x.k == 0) = false := by simp [hk0]
      by_cases hk1 : x.k = 1
      · have e1 : (x.k == 1) = true := by simp [hk1]
        have HK := hide hk1
        clear hk1
        go_wp2_with fail
        refine (addMap_any w.heap.size w.heap.size vs x HK.out _ hd1 hsz (by omega)).mono ?_
        rintro e W2 ⟨rfl, ⟨v, hv, hd2⟩, t2⟩
        have hb2 := hb1.trans (t2.toBelow (fun k h => h.1) hb1.size)
        have hE2 := (hE1.keep t2 own_not_map).snoc hv
        rw [← hnx] at hE2
        clear t2 hd1 hE1 hb1 ta al hE hd
        go_wp2
        go_roundw
        case rel => exact ⟨j + 1, _, by omega, by go_num, hd2, hE2, hb2⟩
        case measure => simp [intOf]; omega
      · have e1 : (x.k == 1) = false := by simp [hk1]
        go_wp2_with fail
        refine (addOther_any w.heap.size w.heap.size vs x.k _ hd1 hsz (by omega)).mono ?_
        rintro e W2 ⟨rfl, hd2, t2⟩
        have hv : Enc W2 (.iface 2 (.int .i64 x.k)) x := .inr (.inr ⟨hk0, hk1, rfl⟩)
        have hb2 := hb1.trans (t2.toBelow (fun k h => h.1) hb1.size)
        have hE2 := (hE1.keep t2 own_not_map).snoc hv
        rw [← hnx] at hE2
        clear t2 hd1 hE1 hb1 ta al hE hd
        go_wp2
        go_roundw
        case rel => exact ⟨j + 1, _, by omega, by go_num, hd2, hE2, hb2⟩
        case measure => simp [intOf]; omega
  · rw [List.take_of_length_le (by omega)] at hE
    go_wp2
    go_ret
    exact ⟨_, vs, rfl, hd, hE, hb⟩

end Go.Proofs.Qxb6616159a
