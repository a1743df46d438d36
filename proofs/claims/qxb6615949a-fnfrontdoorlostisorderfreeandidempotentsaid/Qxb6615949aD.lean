import Derived.Test.Qxb6615949aC
namespace Go.Proofs.Qxb6615949a
open Go.RowKit

theorem Try.info9 : (Try.prog.info? 9).map (fun i => (i.zero, i.size, i.bytes)) = some (some (.string ByteArray.empty), 1, 16) := by kernel_rfl

/-- What a row of strings holds when its first k are filled in. -/
def fillTo (ss : List ByteArray) (k : Nat) : List ByteArray := ss.take k ++ List.replicate (ss.length - k) ByteArray.empty
theorem fillTo_zero (ss : List ByteArray) : fillTo ss 0 = List.replicate ss.length ByteArray.empty := by simp [fillTo]
theorem fillTo_all (ss : List ByteArray) : fillTo ss ss.length = ss := by simp [fillTo]
theorem fillTo_length (ss : List ByteArray) (k : Nat) (h : k ≤ ss.length) : (fillTo ss k).length = ss.length := by simp [fillTo]; omega
theorem fillTo_set (ss : List ByteArray) (k : Nat) (h : k < ss.length) : (fillTo ss k).set k ss[k] = fillTo ss (k + 1) := by
  unfold fillTo
  have hl : (ss.take k).length = k := by rw [List.length_take]; omega
  obtain ⟨m, hm⟩ : ∃ m, ss.length - k = m + 1 := ⟨ss.length - k - 1, by omega⟩
  rw [take_snoc _ _ h, List.set_append_right _ _ (by omega), hl, Nat.sub_self, hm, show ss.length - (k + 1) = m by omega, List.replicate_succ, List.set_cons_zero, List.append_assoc]
  rfl

theorem Strs.of_own {w : World} {base n : Nat} {a : Option Addr} {m c : Nat} {ss : List ByteArray} (h : w.ownsRow base 9 1 (.slice a m c) n (ss.map Value.string)) : Strs w a ss ∧ m = ss.length ∧ n = ss.length := by
  obtain ⟨h1, h2⟩ := h
  simp at h1
  rcases h2 with ⟨hv, h2⟩ | ⟨g, cap, cur, hv, hg, hh, r1, r2, r3, r4⟩
  · simp at hv
    obtain ⟨rfl, rfl, rfl⟩ := hv
    refine ⟨fun i hi => by omega, by omega, by omega⟩
  · simp at hv
    obtain ⟨rfl, rfl, rfl⟩ := hv
    refine ⟨fun i hi => ⟨g, 0, rfl, ?_⟩, by omega, by omega⟩
    have : cur[0 + i]? = some (.string (ss.getD i ByteArray.empty)) := by
      have e : (cur.toList.take (m * 1))[i]? = (ss.map Value.string)[i]? := by rw [r4]
      rw [List.getElem?_take_of_lt (by omega)] at e
      rw [Nat.zero_add, ← Array.getElem?_toList, e, List.getElem?_map, List.getElem?_eq_getElem hi]
      simp [List.getD_eq_getElem?_getD, hi]
    simp [World.cell?, hh]
    simpa using this

set_option maxHeartbeats 400000 in
set_option maxRecDepth 100000 in
theorem clone_any (a : Option Addr) (c : Nat) (ss : List ByteArray) (w : World) (hs : Strs w a ss) (ha : a = none → ss = [] ∧ c = 0) (hn : ss.length * 16 ≤ 140737488351232) :
    Calls Try.prog 27 #[.slice a ss.length c] w fun e w' => ∃ v, e = .returned v ∧ w'.ownsRow w.heap.size 9 1 v ss.length (ss.map Value.string) ∧ Below w.heap.size w w' := by
  cases a with
  | none =>
    obtain ⟨rfl, rfl⟩ := ha rfl
    have he := Lib.run_eql_slice_nil (P := Try.prog) w 36 9 none 0 0 0 0 Try.underlying36
    go_enter Try.func27, Try.ntmps27
    go_wp2
    go_ret
    exact ⟨_, rfl, World.ownsRow_nil _ _ _ _, Below.refl _ _⟩
  | some ad =>
    clear ha
    obtain ⟨i0, hi, hz0, hz1, hz2⟩ := info_parts Try.info9
    have he := Lib.run_eql_slice_nil (P := Try.prog) w 36 9 (some ad) ss.length c 0 0 Try.underlying36
    go_enter Try.func27, Try.ntmps27
    go_wp2_with (first | (at_make; refine wpList_make_full _ rfl _ _ 36 rfl w.heap.size 9 i0 (.string ByteArray.empty) 1 Try.underlying36 hi hz0 hz1 .i64 .i64 _ _ ss.length rfl rfl rfl rfl (by rw [hz2]; omega) (by unfold maxLen; omega) (Nat.le_refl _) ?_; intro w1 hown hgrow))
    rw [show (Value.string ByteArray.empty).cells = #[Value.string ByteArray.empty] from rfl, toList_madeCells_one, Nat.mul_one] at hown
    go_loopw [4] (fun i wr => ∃ k : Nat, k ≤ ss.length ∧ i = .int .i64 k ∧ wr.ownsRow w.heap.size 9 1 (.slice (some ⟨w.heap.size, 0, none⟩) ss.length ss.length) ss.length ((fillTo ss k).map Value.string) ∧ Below w.heap.size w wr) (fun i _ => ss.length - (intOf i).toNat)
    case atStart => exact ⟨0, Nat.zero_le _, rfl, by rw [fillTo_zero, List.map_replicate]; exact hown, (Below.refl _ _).grown hgrow (Nat.le_refl _) (by simp)⟩
    clear hown hgrow
    obtain ⟨k, hk, rfl, hown, hb⟩ := hrel
    by_cases hlt : k < ss.length
    · obtain ⟨b, off, hab, hc⟩ := hs.below hb k hlt
      obtain rfl : ad = ⟨b, off, none⟩ := by simpa using hab
      have hc1 := hown.cellAt k (by omega)
      rw [List.getElem?_eq_getElem (by rw [List.length_map, fillTo_length _ _ hk]; exact hlt)] at hc1
      have hf1 := hown.frozenAt k
      obtain ⟨hs1, hs2⟩ := hown.stored k (.string ss[k])
      rw [show (List.map Value.string (fillTo ss k)).set k (Value.string ss[k]) = (fillTo ss (k + 1)).map Value.string by rw [← fillTo_set ss k hlt, List.map_set]] at hs1
      have hb2 := hb.grown hs2 hb.size (fun k h => by cases h; exact Nat.le_refl _)
      clear hs2
      go_wp2
      go_roundw
      case rel => exact ⟨k + 1, by omega, by go_num, hs1, hb2⟩
      case measure => simp [intOf]; omega
    · have : k = ss.length := by omega
      subst this
      rw [fillTo_all] at hown
      go_wp2
      go_ret
      exact ⟨_, rfl, hown, hb⟩

end Go.Proofs.Qxb6615949a
