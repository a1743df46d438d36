import Derived.Test.Qxb6616159aP
import Derived.Deep.DeepCutAuto
import Derived.Deep.RegionHeld3
namespace Go.Proofs.Qxb6616159a
open Go.RowKit
set_option linter.unusedSimpArgs false

theorem row_base {B B' n e sz : Nat} {O : Value} {xs : List Value} {w : World} (h : w.ownsRow B e sz O n xs) (hB : B' ≤ B) : w.ownsRow B' e sz O n xs := by
  obtain ⟨h1, h2⟩ := h
  refine ⟨h1, ?_⟩
  rcases h2 with h2 | ⟨g, cap, cur, hv, hb, r⟩
  · exact .inl h2
  · exact .inr ⟨g, cap, cur, hv, Nat.le_trans hB hb, r⟩
theorem row_form {B n e sz : Nat} {O : Value} {xs : List Value} {w : World} (h : w.ownsRow B e sz O n xs) : ∃ ad cap, O = .slice ad n cap ∧ ∀ j u, xs[j]? = some u → ∃ g, ad = some ⟨g, 0, none⟩ ∧ w.cell? ⟨g, j, none⟩ = some u := by
  rcases h.2 with ⟨h2, hn⟩ | ⟨g, cap, cur, hv, hb, r⟩
  · refine ⟨none, 0, by rw [h2, hn], fun j u hj => ?_⟩
    have := h.1
    rw [hn, Nat.zero_mul] at this
    rw [List.eq_nil_of_length_eq_zero this] at hj
    simp at hj
  · refine ⟨some ⟨g, 0, none⟩, cap, hv, fun j u hj => ⟨g, rfl, ?_⟩⟩
    have := h.cells (g := g) (by rw [hv]; rfl) j u hj
    rwa [Addr.add_mid, Nat.zero_add] at this
theorem cell_keep {W W' : World} (hb : Below W.heap.size W W') {a : Addr} {v : Value} (h : W.cell? a = some v) : W'.cell? a = some v := by
  rw [hb.cell (cell_lt h)]; exact h
theorem impCells_get : ∀ (l : List (ByteArray × ByteArray)) (j : Nat) (p : ByteArray × ByteArray), l[j]? = some p → (impCells l)[j * 2]? = some (.string p.1) ∧ (impCells l)[j * 2 + 1]? = some (.string p.2)
  | [], j, p, h => by simp at h
  | x :: l, 0, p, h => by
    simp at h
    subst h
    simp [impCells]
  | x :: l, j + 1, p, h => by
    have h' : l[j]? = some p := by simpa using h
    have e : impCells (x :: l) = .string x.1 :: .string x.2 :: impCells l := by simp [impCells]
    rw [e, show (j + 1) * 2 = j * 2 + 1 + 1 from by omega, show j * 2 + 1 + 1 + 1 = (j * 2 + 1) + 1 + 1 from rfl]
    simp only [List.getElem?_cons_succ]
    exact impCells_get l j p h'
/-- The slice over ad reads as the imports l. -/
def Imps (w : World) (ad : Option Addr) (l : List (ByteArray × ByteArray)) : Prop :=
  ∀ j p, l[j]? = some p → ∃ g, ad = some ⟨g, 0, none⟩ ∧ w.cell? ⟨g, j * 2, none⟩ = some (.string p.1) ∧ w.cell? ⟨g, j * 2 + 1, none⟩ = some (.string p.2)
theorem imps_form {B : Nat} {O : Value} {l : List (ByteArray × ByteArray)} {w : World} (h : w.ownsRow B 32 2 O l.length (impCells l)) : ∃ ad cap, O = .slice ad l.length cap ∧ Imps w ad l := by
  obtain ⟨ad, cap, e, f⟩ := row_form h
  refine ⟨ad, cap, e, fun j p hp => ?_⟩
  obtain ⟨h1, h2⟩ := impCells_get l j p hp
  obtain ⟨g, e1, c1⟩ := f _ _ h1
  obtain ⟨g', e2, c2⟩ := f _ _ h2
  rw [e1] at e2
  cases e2
  exact ⟨g, e1, c1, c2⟩
theorem Imps.heap {w w' : World} {ad : Option Addr} {l : List (ByteArray × ByteArray)} (h : Imps w ad l) (e : w'.heap = w.heap) : Imps w' ad l := by
  intro j p hp
  obtain ⟨g, h1, h2, h3⟩ := h j p hp
  refine ⟨g, h1, ?_, ?_⟩
  · rw [World.cell?, e]; exact h2
  · rw [World.cell?, e]; exact h3
theorem Items.take {w : World} {a : Option Addr} {xs : List It} (h : Items w a xs) (n : Nat) : Items w a (xs.take n) := by
  intro i hi
  rw [List.length_take] at hi
  have e : (xs.take n).getD i It.zero = xs.getD i It.zero := by
    rw [List.getD_eq_getElem?_getD, List.getD_eq_getElem?_getD, List.getElem?_take_of_lt (by omega)]
  rw [e]
  exact h i (by omega)

theorem Items.drop {w : World} {a : Option Addr} {xs : List It} (h : Items w a xs) (n : Nat) : Items w (a.map (fun x => x.add (n * 6))) (xs.drop n) := by
  intro i hi
  rw [List.length_drop] at hi
  have e : (xs.drop n).getD i It.zero = xs.getD (n + i) It.zero := by
    rw [List.getD_eq_getElem?_getD, List.getD_eq_getElem?_getD, List.getElem?_drop]
  obtain ⟨b, off, rfl, h0, h1, h2, h3, h4, h5⟩ := h (n + i) (by omega)
  rw [e]
  have ea : off + n * 6 + i * 6 = off + (n + i) * 6 := by omega
  refine ⟨b, off + n * 6, by rw [Option.map_some, Addr.add_mid], ?_, ?_, ?_, ?_, ?_, ?_⟩ <;> rw [ea] <;> assumption

set_option maxRecDepth 100000 in
set_option maxHeartbeats 8000000 in
theorem law3_any (a : Option Addr) (c : Nat) (xs : List It) (k : Int) (w : World) (hs : Items w a xs) (hcap : xs.length ≤ c) (hnone : a = none → c = 0) :
    Calls Try.prog 3 #[.slice a xs.length c, .int .i64 k] w fun e w' => e = .returned (.bool true) ∧ Below w.heap.size w w' := by
  go_enter Try.func3, Try.ntmps3
  go_wp2_with fail
  refine (bytes5_any a c xs k w hs).mono ?_
  rintro e w' ⟨⟨r, rfl, hsm⟩, hw'⟩
  have hw2 := hw'.symm
  subst hw2
  clear hw'
  cases r with
  | false =>
    go_wp2
    go_ret
    exact ⟨rfl, Below.refl _ _⟩
  | true =>
  obtain ⟨hn', hz'⟩ := hsm rfl
  clear hsm
  have hn : xs.length ≤ 10000000 := by omega
  have hz : ∀ x ∈ xs, x.t.size ≤ 140737488355328 := fun x hx => Nat.le_trans (hz' x hx) (by omega)
  clear hn' hz'
  go_wp2_with fail
  refine (tooBig_any a c xs 0 w hs (by omega)).mono ?_
  rintro e W1 ⟨⟨r, rfl⟩, b1⟩
  cases r with
  | true =>
    go_wp2
    go_ret
    exact ⟨rfl, b1⟩
  | false =>
  by_cases hk0 : k < 0
  · go_wp2
    go_ret
    exact ⟨rfl, b1⟩
  by_cases hk1 : (xs.length : Int) < k
  · go_wp2
    go_ret
    exact ⟨rfl, b1⟩
  obtain ⟨n, rfl⟩ : ∃ n : Nat, k = n := ⟨k.toNat, by omega⟩
  go_wp2_with fail
  have HK1 := hide hk1
  clear hk0 hk1
  generalize decide (xs.length < n) = q1
  generalize decide ((n : Int) < 0) = q0
  go_loopw [5, 6, 7] (fun t f i wr => ∃ (j : Nat), j ≤ xs.length ∧ i = .int .i64 j ∧ t = .int .i64 ((imps (xs.take j)).length : Nat) ∧ f = .int .i64 (firstFrom n (xs.take j) 0 (-1)) ∧ Below w.heap.size w wr) (fun _ _ i _ => xs.length - (intOf i).toNat)
  case atStart => exact ⟨0, Nat.zero_le _, rfl, rfl, rfl, b1⟩
  obtain ⟨j, hj, rfl, rfl, rfl, hb⟩ := hrel
  by_cases hlt : j < xs.length
  · have hnx := take_snoc xs j hlt It.zero
    obtain ⟨b, off, rfl, h0, h1, h2, h3, h4, h5⟩ := hs.below hb j hlt
    have hlj : (xs.take j).length = j := by rw [List.length_take]; omega
    have hcj : (imps (xs.take j)).length ≤ 10000000 := Nat.le_trans (imps_le _) (by omega)
    generalize xs.getD j It.zero = x at *
    go_wp2_with fail
    refine (wellFormed_any x wr).mono ?_
    rintro e W2 ⟨rfl, b2⟩
    have hb2 := below_chain hb b2
    have e6 : firstFrom n (xs.take (j + 1)) 0 (-1) = firstStep n x j (firstFrom n (xs.take j) 0 (-1)) := by rw [hnx, firstFrom_snoc, hlj, Nat.zero_add]
    have e5 : imps (xs.take (j + 1)) = if wfIt x then imps (xs.take j) ++ [impIt x] else imps (xs.take j) := by rw [hnx, imps_snoc]
    clear hnx hb b2 h0 h1 h2 h3 h4 h5
    generalize firstFrom n (xs.take j) 0 (-1) = f at *
    obtain ⟨q, hq⟩ : ∃ q, wfIt x = q := ⟨_, rfl⟩
    unfold firstStep at e6
    rw [hq] at e5 e6 ⊢
    cases q with
    | false =>
      rw [if_neg (by simp)] at e5 e6
      go_wp2
      go_roundw
      case rel => exact ⟨j + 1, by omega, by go_num, by rw [e5], by rw [e6], hb2⟩
      case measure => simp [intOf]; omega
    | true =>
      rw [if_pos rfl] at e5 e6
      by_cases hge : n ≤ j
      · rw [if_pos hge] at e6
        by_cases hf : f < 0
        · rw [if_pos hf] at e6
          go_wp2
          go_roundw
          case rel => exact ⟨j + 1, by omega, by go_num, by rw [e5, List.length_append]; go_num, by rw [e6], hb2⟩
          case measure => simp [intOf]; omega
        · rw [if_neg hf] at e6
          go_wp2
          go_roundw
          case rel => exact ⟨j + 1, by omega, by go_num, by rw [e5, List.length_append]; go_num, by rw [e6], hb2⟩
          case measure => simp [intOf]; omega
      · rw [if_neg hge] at e6
        go_wp2
        go_roundw
        case rel => exact ⟨j + 1, by omega, by go_num, by rw [e5, List.length_append]; go_num, by rw [e6], hb2⟩
        case measure => simp [intOf]; omega
  · rw [List.take_of_length_le (by omega)]
    have hnl : n ≤ xs.length := by have := HK1.out; omega
    have i0 : (0 : Int) ≤ n := by omega
    have i1 : (n : Int) ≤ c := by omega
    have i2 : (n : Int) ≤ xs.length := by omega
    go_wp2_with fail
    refine (dependencyOf_any a c xs wr (hs.below hb) hn).mono ?_
    rintro e W2 ⟨d1, vs1, rfl, D1, E1, b2⟩
    have B2 := below_chain hb b2
    go_wp2_with fail
    refine (imports_any _ d1 vs1 xs W2 D1 E1 hz hn).mono ?_
    rintro e W3 ⟨O1, rfl, o1, b3⟩
    have B3 := below_chain B2 b3
    have z1 := B2.size
    clear D1 E1 b2 b3 B2
    go_wp2_with fail
    have hln : (xs.take n).length = n := by rw [List.length_take]; omega
    have hdep := dependencyOf_any a c (xs.take n) W3 ((hs.below B3).take n) (by omega)
    rw [hln] at hdep
    refine hdep.mono ?_
    rintro e W4 ⟨d2, vs2, rfl, D2, E2, b4⟩
    have B4 := below_chain B3 b4
    have o1' := row_keep o1 (Touch.of_below (S := fun _ => False) b4) (by simp)
    clear hdep
    go_wp2_with fail
    refine (imports_any _ d2 vs2 (xs.take n) W4 D2 E2 (fun x hx => hz x (List.mem_of_mem_take hx)) (by omega)).mono ?_
    rintro e W5 ⟨O2, rfl, o2, b5⟩
    have B5 := below_chain B4 b5
    have z2 := B4.size
    have o1 := row_keep o1' (Touch.of_below (S := fun _ => False) b5) (by simp)
    clear D2 E2 b4 b5 B4 o1' B3
    have hld : (xs.drop n).length = xs.length - n := List.length_drop
    have hzd : ∀ x ∈ xs.drop n, x.t.size ≤ 140737488355328 := fun x hx => hz x (List.mem_of_mem_drop hx)
    go_upto_region 18 with fail
    go_cut [10] (fun O3 wx => wx.ownsRow w.heap.size 32 2 O3 (imps (xs.drop n)).length (impCells (imps (xs.drop n))) ∧ wx.ownsRow w.heap.size 32 2 O1 (imps xs).length (impCells (imps xs)) ∧ wx.ownsRow w.heap.size 32 2 O2 (imps (xs.take n)).length (impCells (imps (xs.take n))) ∧ Below w.heap.size w wx)
    case first =>
      have fin : ∀ (a' : Option Addr) (c' : Nat), Items W5 a' (xs.drop n) → Calls Try.prog 8 #[.slice a' (xs.length - n) c'] W5 fun e w' => ∃ d vs, e = .returned (.pointer (some ⟨d, 0, none⟩)) ∧ Dep W5.heap.size w' d vs ∧ EncAll w' vs (xs.drop n) ∧ Below W5.heap.size W5 w' := fun a' c' hi => by
        have := dependencyOf_any a' c' (xs.drop n) W5 hi (by omega)
        rwa [hld] at this
      go_wp2_with fail
      · refine (fin _ _ (fun i hi => absurd hi (by rw [hld]; omega))).mono ?_
        rintro e W6 ⟨d3, vs3, rfl, D3, E3, b6⟩
        go_wp2_with fail
        refine (imports_any _ d3 vs3 (xs.drop n) W6 D3 E3 hzd (by omega)).mono ?_
        rintro e W7 ⟨O3, rfl, o3, b7⟩
        have t7 := (Touch.of_below (S := fun _ => False) b6).trans (Touch.of_below b7)
        obtain rfl : c = n := by omega
        go_wp2_with fail
        go_meet
        exact ⟨row_base o3 (Nat.le_trans B5.size b6.size), row_base (row_keep o1 t7 (by simp)) (by omega), row_base (row_keep o2 t7 (by simp)) (by omega), below_chain (below_chain B5 b6) b7⟩
      · refine (fin _ _ ((hs.below B5).drop n)).mono ?_
        rintro e W6 ⟨d3, vs3, rfl, D3, E3, b6⟩
        go_wp2_with fail
        refine (imports_any _ d3 vs3 (xs.drop n) W6 D3 E3 hzd (by omega)).mono ?_
        rintro e W7 ⟨O3, rfl, o3, b7⟩
        have t7 := (Touch.of_below (S := fun _ => False) b6).trans (Touch.of_below b7)
        go_wp2_with fail
        go_meet
        exact ⟨row_base o3 (Nat.le_trans B5.size b6.size), row_base (row_keep o1 t7 (by simp)) (by omega), row_base (row_keep o2 t7 (by simp)) (by omega), below_chain (below_chain B5 b6) b7⟩
    case rest =>
      obtain ⟨o3, o1', o2', B6⟩ := hcut
      clear o1 o2 B5 z1 z2 hld hzd hln
      obtain ⟨ad1, cp1, rfl, f1⟩ := imps_form o1'
      obtain ⟨ad2, cp2, rfl, f2⟩ := imps_form o2'
      obtain ⟨ad3, cp3, rfl, f3⟩ := imps_form o3
      have hall : imps xs = imps (xs.take n) ++ imps (xs.drop n) := by rw [← imps_append, List.take_append_drop]
      have hfs := firstFrom_spec n xs 0 (-1) (by omega)
      rw [Nat.sub_zero] at hfs
      have hl1 : (imps xs).length ≤ 10000000 := Nat.le_trans (imps_le _) hn
      generalize imps xs = l1 at *
      generalize imps (xs.take n) = l2 at *
      generalize imps (xs.drop n) = l3 at *
      generalize firstFrom n xs 0 (-1) = f at *
      have hlen : l1.length = l2.length + l3.length := by rw [hall, List.length_append]
      replace hall := hide hall
      have hsum : (l2.length : Int) + l3.length = l1.length := by omega
      replace hlen := hide hlen
      clear o1' o2' o3
      replace hfs := hide hfs
      replace f1 := hide f1
      replace f2 := hide f2
      replace f3 := hide f3
      go_wp2_with fail
      go_loopw [11] (fun i wr => ∃ (j : Nat), j ≤ l2.length ∧ i = .int .i64 j ∧ wr.heap = wc.heap ∧ Below w.heap.size w wr) (fun i _ => l2.length - (intOf i).toNat)
      case atStart => exact ⟨0, Nat.zero_le _, rfl, rfl, B6⟩
      obtain ⟨j2, hj2, rfl, hh, hb⟩ := hrel
      by_cases hlt2 : j2 < l2.length
      · have hp2 : l2[j2]? = some l2[j2] := List.getElem?_eq_getElem hlt2
        have hp1 : l1[j2]? = some l2[j2] := by rw [hall.out, List.getElem?_append_left hlt2]; exact hp2
        obtain ⟨g1, rfl, c10, c11⟩ := (f1.out.heap hh) _ _ hp1
        obtain ⟨g2, rfl, c20, c21⟩ := (f2.out.heap hh) _ _ hp2
        have j0 : (0 : Int) ≤ j2 := by omega
        have j1 : (j2 : Int) < l1.length := by omega
        have j2' : (j2 : Int) < l2.length := by omega
        generalize l2[j2] = q at *
        obtain ⟨qa, qb⟩ := q
        clear hp1 hp2
        go_wp2
        go_quiet (fail)
        go_wp2
        go_roundw
        case rel => exact ⟨j2 + 1, by omega, by go_num, hh, ⟨hb.os, hb.tape, hb.output, hb.size, hb.block⟩⟩
        case measure => simp [intOf]; omega
      · have f1 := hide (f1.out.heap hh)
        have f3 := hide (f3.out.heap hh)
        clear f2 hh B6 o1
        go_wp2_with fail
        go_loopw [12] (fun i wx => ∃ (j : Nat), j ≤ l3.length ∧ i = .int .i64 j ∧ wx.heap = wr.heap ∧ Below w.heap.size w wx) (fun i _ => l3.length - (intOf i).toNat)
        case atStart => exact ⟨0, Nat.zero_le _, rfl, rfl, hb⟩
        clear hb
        obtain ⟨j3, hj3, rfl, hh, hb⟩ := hrel
        by_cases hlt3 : j3 < l3.length
        · have hp3 : l3[j3]? = some l3[j3] := List.getElem?_eq_getElem hlt3
          have hp1 : l1[l2.length + j3]? = some l3[j3] := by rw [hall.out, List.getElem?_append_right (by omega), Nat.add_sub_cancel_left]; exact hp3
          obtain ⟨g1, rfl, c10, c11⟩ := (f1.out.heap hh) _ _ hp1
          obtain ⟨g3, rfl, c30, c31⟩ := (f3.out.heap hh) _ _ hp3
          have j0 : (0 : Int) ≤ j3 := by omega
          have j1 : (l2.length : Int) + j3 < l1.length := by omega
          have j2' : (j3 : Int) < l3.length := by omega
          generalize l3[j3] = q at *
          obtain ⟨qa, qb⟩ := q
          clear hp1 hp3
          go_wp2
          go_quiet (fail)
          go_wp2
          go_roundw
          case rel => exact ⟨j3 + 1, by omega, by go_num, hh, ⟨hb.os, hb.tape, hb.output, hb.size, hb.block⟩⟩
          case measure => simp [intOf]; omega
        · have hz := hide hz
          rcases hfs.out with ⟨e3, ef⟩ | ⟨j4, rest, hj4, ef, e3⟩
          · subst e3
            subst ef
            go_wp2
            go_ret
            exact ⟨rfl, hb⟩
          · have hp3 : l3[0]? = some (impIt (xs.getD j4 It.zero)) := by rw [e3]; rfl
            rw [Nat.zero_add] at ef
            subst ef
            obtain ⟨g3, rfl, c30, c31⟩ := (f3.out.heap hh) _ _ hp3
            have c30' : wr.cell? ⟨g3, 0, none⟩ = some (.string (impIt (xs.getD j4 It.zero)).1) := c30
            have c31' : wr.cell? ⟨g3, 1, none⟩ = some (.string (impIt (xs.getD j4 It.zero)).2) := c31
            obtain ⟨b, off, rfl, h0, h1, h2, h3, h4, h5⟩ := hs.below hb j4 hj4
            have hl3 : (0 : Int) < l3.length := by
              have := congrArg List.length e3
              rw [List.length_cons] at this
              omega
            have hl3p : 0 < l3.length := by omega
            have hl3n : l3 ≠ [] := by rw [e3]; simp
            have zx : (xs.getD j4 It.zero).t.size ≤ 140737488355328 := by
              rw [List.getD_eq_getElem?_getD, List.getElem?_eq_getElem hj4]
              exact hz.out _ (List.getElem_mem _)
            have j0 : (0 : Int) ≤ j4 := by omega
            have j1 : (j4 : Int) < xs.length := by omega
            clear c30 c31 hp3 e3 f1 f3 hfs
            generalize xs.getD j4 It.zero = x at *
            go_wp2_with fail
            have BD := hb.drew
            clear hb hh hs
            go_region_held3 (fun w' => w'.cell? ⟨g3, 0, none⟩ = some (.string (impIt x).1) ∧ w'.cell? ⟨g3, 1, none⟩ = some (.string (impIt x).2) ∧ w'.cell? ⟨b, off + j4 * 6, none⟩ = some (.int .i64 x.k) ∧ w'.cell? ⟨b, off + j4 * 6 + 1, none⟩ = some (.string x.t) ∧ w'.cell? ⟨b, off + j4 * 6 + 2, none⟩ = some (.int .i64 x.ck) ∧ w'.cell? ⟨b, off + j4 * 6 + 3, none⟩ = some (.string x.c) ∧ w'.cell? ⟨b, off + j4 * 6 + 4, none⟩ = some (.int .i64 x.pk) ∧ w'.cell? ⟨b, off + j4 * 6 + 5, none⟩ = some (.string x.p)) (first | exact ⟨c30', c31', h0, h1, h2, h3, h4, h5⟩ | exact ⟨k50, k51, cell_keep b5 h0, cell_keep b5 h1, cell_keep b5 h2, cell_keep b5 h3, cell_keep b5 h4, cell_keep b5 h5⟩)
              (first
                | (go_at_call 10; refine (zimportOf_any x wr.drew zx).mono ?_; rintro e w5 ⟨rfl, b5⟩; have k50 := cell_keep b5 (show wr.drew.cell? _ = _ from c30'); have k51 := cell_keep b5 (show wr.drew.cell? _ = _ from c31'); have B5 := below_chain BD b5))
            go_wp2
            go_ret
            exact ⟨rfl, B5⟩

end Go.Proofs.Qxb6616159a
