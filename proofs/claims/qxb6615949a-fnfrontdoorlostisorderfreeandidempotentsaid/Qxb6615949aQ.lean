import Derived.Test.Qxb6615949aP
namespace Go.Proofs.Qxb6615949a
open Go.RowKit

theorem mem_one (L : List ByteArray) (x y : ByteArray) (s : ByteArray) : s ∈ (L ++ [x]) ++ [y] ↔ s ∈ x :: y :: L := by
  simp only [List.mem_append, List.mem_cons, List.not_mem_nil, or_false]
  constructor
  · rintro ((h | h) | h)
    · exact .inr (.inr h)
    · exact .inl h
    · exact .inr (.inl h)
  · rintro (h | h | h)
    · exact .inl (.inr h)
    · exact .inr h
    · exact .inl (.inl h)
theorem mem_two (L : List ByteArray) (x y : ByteArray) (s : ByteArray) : s ∈ ((L ++ [y]) ++ [x]) ++ [x] ↔ s ∈ x :: y :: L := by
  simp only [List.mem_append, List.mem_cons, List.not_mem_nil, or_false]
  constructor
  · rintro (((h | h) | h) | h)
    · exact .inr (.inr h)
    · exact .inr (.inl h)
    · exact .inl h
    · exact .inl h
  · rintro (h | h | h)
    · exact .inr h
    · exact .inl (.inl (.inr h))
    · exact .inl (.inl (.inl h))

theorem BoxC.six {W : World} {N : Nat} {x1 x2 x3 x4 x5 x6 : Value} (h : BoxC W N x1 x2 x3 x4 x5 x6) : W.cell? ⟨N, 0, none⟩ = some x1 ∧ W.cell? ⟨N, 1, none⟩ = some x2 ∧ W.cell? ⟨N, 2, none⟩ = some x3 ∧ W.cell? ⟨N + 1, 0, none⟩ = some x4 ∧ W.cell? ⟨N + 1, 1, none⟩ = some x5 ∧ W.cell? ⟨N + 1, 2, none⟩ = some x6 := h
theorem BoxC.keepB {W W' : World} {N B : Nat} {x1 x2 x3 x4 x5 x6 : Value} (h : BoxC W N x1 x2 x3 x4 x5 x6) (hb : Below B W W') (hB : N + 1 < B) : BoxC W' N x1 x2 x3 x4 x5 x6 := by
  obtain ⟨g1, g2, g3, g4, g5, g6⟩ := h
  refine ⟨?_, ?_, ?_, ?_, ?_, ?_⟩ <;> (rw [hb.cell (by simp only; omega)]; assumption)
theorem below_chainB {w W W' : World} {B : Nat} (h1 : Below w.heap.size w W) (h2 : Below B W W') (hB : w.heap.size ≤ B) : Below w.heap.size w W' := h1.trans (h2.mono hB)

set_option maxHeartbeats 8000000 in
set_option maxRecDepth 100000 in
theorem law_any (x y : ByteArray) (a1 a2 a3 a4 a5 a6 : Option Addr) (c1 c2 c3 c4 c5 c6 : Nat) (s1 s2 s3 s4 s5 s6 : List ByteArray) (w : World) (h1 : Strs w a1 s1) (h2 : Strs w a2 s2) (h3 : Strs w a3 s3) (h4 : Strs w a4 s4) (h5 : Strs w a5 s5) (h6 : Strs w a6 s6)
    (n1 : s1.length * 16 ≤ 140737488351232) (n2 : s2.length * 16 ≤ 140737488351232) (n3 : s3.length * 16 ≤ 140737488351232) (n4 : s4.length * 16 ≤ 140737488351232) (n5 : s5.length * 16 ≤ 140737488351232) (n6 : s6.length * 16 ≤ 140737488351232)
    (e1 : a1 = none → s1 = [] ∧ c1 = 0) (e2 : a2 = none → s2 = [] ∧ c2 = 0) (e4 : a4 = none → s4 = [] ∧ c4 = 0) (e5 : a5 = none → s5 = [] ∧ c5 = 0) (z3 : ∀ s ∈ s3, s.size ≤ maxLen) (z6 : ∀ s ∈ s6, s.size ≤ maxLen) (zx : x.size ≤ maxLen) (zy : y.size ≤ maxLen) :
    Calls Try.prog 6 #[.string x, .string y, .agg #[.slice a1 s1.length c1, .slice a2 s2.length c2, .slice a3 s3.length c3], .agg #[.slice a4 s4.length c4, .slice a5 s5.length c5, .slice a6 s6.length c6]] w
      fun e w' => e = .returned (.bool true) ∧ Below w.heap.size w w' := by
  have B0 : Below w.heap.size w ((w.alloc (.cells #[.slice a1 s1.length c1, .slice a2 s2.length c2, .slice a3 s3.length c3] 38)).alloc (.cells #[.slice a4 s4.length c4, .slice a5 s5.length c5, .slice a6 s6.length c6] 38)) := ((Below.refl _ _).alloc (by simp) _).alloc (by simp) _
  have SB0 : BoxC ((w.alloc (.cells #[.slice a1 s1.length c1, .slice a2 s2.length c2, .slice a3 s3.length c3] 38)).alloc (.cells #[.slice a4 s4.length c4, .slice a5 s5.length c5, .slice a6 s6.length c6] 38)) w.heap.size (.slice a1 s1.length c1) (.slice a2 s2.length c2) (.slice a3 s3.length c3) (.slice a4 s4.length c4) (.slice a5 s5.length c5) (.slice a6 s6.length c6) := ⟨cell_al (cell_top rfl rfl) _, cell_al (cell_top rfl rfl) _, cell_al (cell_top rfl rfl) _, cell_top (by simp) rfl, cell_top (by simp) rfl, cell_top (by simp) rfl⟩
  have zN : w.heap.size + 2 ≤ ((w.alloc (.cells #[.slice a1 s1.length c1, .slice a2 s2.length c2, .slice a3 s3.length c3] 38)).alloc (.cells #[.slice a4 s4.length c4, .slice a5 s5.length c5, .slice a6 s6.length c6] 38)).heap.size := by simp
  go_enter Try.func6, Try.ntmps6
  go_wp2_with fail
  refine (bytes_any _ _ _ _ _ _ _ _ _ _ _ _ _ _ s1 s2 s3 s4 s5 s6 _ (h1.below B0) (h2.below B0) (h3.below B0) (h4.below B0) (h5.below B0) (h6.below B0) (by omega) (by omega) (by omega) (by omega) (by omega) (by omega)).mono ?_
  rintro e W1 ⟨⟨r1, rfl⟩, b1⟩
  have B1 := below_chain B0 b1
  have zN1 := Nat.le_trans zN b1.size
  have SB1 := SB0.keep b1
  obtain ⟨k1, k2, k3, k4, k5, k6⟩ := SB1.six
  clear zN B0 SB0 b1
  cases r1 with
  | false =>
    go_wp2
    go_ret
    exact ⟨rfl, B1⟩
  | true =>
  go_wp2_with fail
  refine (pairSize_any _ _ _ _ _ _ _ _ _ _ _ _ _ _ s1 s2 s3 s4 s5 s6 _ (h1.below B1) (h2.below B1) (h3.below B1) (h4.below B1) (h5.below B1) (h6.below B1) (by omega) (by omega) (by omega) (by omega) (by omega) (by omega)).mono ?_
  rintro e W2 ⟨⟨t, rfl⟩, b2⟩
  have B2 := below_chain B1 b2
  have zN2 := Nat.le_trans zN1 b2.size
  clear k1 k2 k3 k4 k5 k6
  have SB2 := SB1.keep b2
  obtain ⟨k1, k2, k3, k4, k5, k6⟩ := SB2.six
  clear zN1 B1 SB1 b2
  by_cases ht : 1048576 < t
  · go_wp2
    go_ret
    exact ⟨rfl, B2⟩
  go_wp2_with fail
  refine (reachable_any _ _ _ _ _ _ s1 s2 s3 _ (h1.below B2) (h2.below B2) (h3.below B2) (by omega) (by omega) (by omega)).mono ?_
  rintro e W3 ⟨⟨r3, rfl⟩, b3⟩
  have B3 := below_chain B2 b3
  have zN3 := Nat.le_trans zN2 b3.size
  clear k1 k2 k3 k4 k5 k6
  have SB3 := SB2.keep b3
  obtain ⟨k1, k2, k3, k4, k5, k6⟩ := SB3.six
  clear zN2 B2 SB2 b3
  cases r3 with
  | false =>
    go_wp2
    go_ret
    exact ⟨rfl, B3⟩
  | true =>
  go_wp2_with fail
  refine (reachable_any _ _ _ _ _ _ s4 s5 s6 _ (h4.below B3) (h5.below B3) (h6.below B3) (by omega) (by omega) (by omega)).mono ?_
  rintro e W4 ⟨⟨r4, rfl⟩, b4⟩
  have B4 := below_chain B3 b4
  have zN4 := Nat.le_trans zN3 b4.size
  clear k1 k2 k3 k4 k5 k6
  have SB4 := SB3.keep b4
  obtain ⟨k1, k2, k3, k4, k5, k6⟩ := SB4.six
  clear zN3 B3 SB3 b4
  cases r4 with
  | false =>
    go_wp2
    go_ret
    exact ⟨rfl, B4⟩
  | true =>
  have b5 : Below W4.heap.size W4 (W4.alloc (.cells #[.bool false, .int .u64 0, .slice none 0 0, .slice none 0 0] 43)) := (Below.refl _ _).alloc (Nat.le_refl _) _
  have B5 := below_chain B4 b5
  have z5 : W4.heap.size < ((W4.alloc (.cells #[.bool false, .int .u64 0, .slice none 0 0, .slice none 0 0] 43))).heap.size := by simp
  have zN5 := Nat.le_trans zN4 b5.size
  clear k1 k2 k3 k4 k5 k6
  have SB5 := SB4.keep b5
  obtain ⟨k1, k2, k3, k4, k5, k6⟩ := SB5.six
  have j0 : ((W4.alloc (.cells #[.bool false, .int .u64 0, .slice none 0 0, .slice none 0 0] 43))).cell? ⟨W4.heap.size, 0, none⟩ = some (.bool false) := cell_top rfl rfl
  have j1 : ((W4.alloc (.cells #[.bool false, .int .u64 0, .slice none 0 0, .slice none 0 0] 43))).cell? ⟨W4.heap.size, 1, none⟩ = some (.int .u64 0) := cell_top rfl rfl
  have j2 : ((W4.alloc (.cells #[.bool false, .int .u64 0, .slice none 0 0, .slice none 0 0] 43))).cell? ⟨W4.heap.size, 2, none⟩ = some (.slice none 0 0) := cell_top rfl rfl
  have j3 : ((W4.alloc (.cells #[.bool false, .int .u64 0, .slice none 0 0, .slice none 0 0] 43))).cell? ⟨W4.heap.size, 3, none⟩ = some (.slice none 0 0) := cell_top rfl rfl
  go_wp2_with fail
  refine (build_any _ _ _ _ _ _ _ _ _ _ _ _ s1 s2 s3 s4 s5 s6 _ (h1.below B5) (h2.below B5) (h3.below B5) (h4.below B5) (h5.below B5) (h6.below B5) n1 n2 n3 n4 n5 n6 e1 e2 e4 e5 z3 z6).mono ?_
  rintro e W6 ⟨f1, ra, rr, rfl, hfd1, b6⟩
  have B6 := below_chain B5 b6
  have zN6 := Nat.le_trans zN5 b6.size
  clear k1 k2 k3 k4 k5 k6
  have SB6 := SB5.keep b6
  obtain ⟨k1, k2, k3, k4, k5, k6⟩ := SB6.six
  replace j0 := cell_keep b6 j0
  replace j1 := cell_keep b6 j1
  replace j2 := cell_keep b6 j2
  replace j3 := cell_keep b6 j3
  have D1 := Door.of_build hfd1
  have l1 : w.heap.size + 2 ≤ ((W4.alloc (.cells #[.bool false, .int .u64 0, .slice none 0 0, .slice none 0 0] 43))).heap.size := zN5
  have l2 := b6.size
  clear hfd1 b6 SB5 SB4 b5 zN4 B4 B5 zN5
  generalize ((W4.alloc (.cells #[.bool false, .int .u64 0, .slice none 0 0, .slice none 0 0] 43))).heap.size = lo1 at *
  go_wp2_with fail
  refine (build_any _ _ _ _ _ _ _ _ _ _ _ _ s1 s2 s3 s4 s5 s6 _ (h1.below B6) (h2.below B6) (h3.below B6) (h4.below B6) (h5.below B6) (h6.below B6) n1 n2 n3 n4 n5 n6 e1 e2 e4 e5 z3 z6).mono ?_
  rintro e W7 ⟨f2, ra2, rr2, rfl, hfd2, b7⟩
  have B7 := below_chain B6 b7
  clear k1 k2 k3 k4 k5 k6
  have SB7 := SB6.keep b7
  obtain ⟨k1, k2, k3, k4, k5, k6⟩ := SB7.six
  have D2 := Door.of_build hfd2
  replace D1 := D1.below b7
  have l3 := b7.size
  clear hfd2 b7 SB6 B6 j0 j1 j2 j3
  generalize W6.heap.size = lo2 at *
  obtain ⟨hi2, hhi⟩ : ∃ hi2, hi2 = W7.heap.size := ⟨_, rfl⟩
  rw [← hhi] at D2
  have l4 : lo2 ≤ hi2 := by omega
  have l5 : hi2 ≤ W7.heap.size := by omega
  clear hhi
  -- lose a at the first door
  go_wp2_with fail
  refine (D1.lost x zx (by unfold maxLen; omega) (by unfold maxLen; omega)).mono ?_
  rintro e W8 ⟨rfl, E1, t8⟩
  have b8 : Below lo1 W7 W8 := t8.toBelow (fun k h => h.1) (by omega)
  have B8 := below_chainB B7 b8 (by omega)
  clear k1 k2 k3 k4 k5 k6
  have SB8 := SB7.keepB b8 (by omega)
  obtain ⟨k1, k2, k3, k4, k5, k6⟩ := SB8.six
  have E2 := D2.keep t8 (fun k h => .inl h.2)
  have l6 := t8.size
  clear D1 D2 t8 b8 SB7 B7
  -- lose b at the first door
  go_wp2_with fail
  refine (E1.lost y zy (by simp; unfold maxLen; omega) (by simp; unfold maxLen; omega)).mono ?_
  rintro e W9 ⟨rfl, F1, t9⟩
  have b9 : Below lo1 W8 W9 := t9.toBelow (fun k h => h.1) (by omega)
  have B9 := below_chainB B8 b9 (by omega)
  clear k1 k2 k3 k4 k5 k6
  have SB9 := SB8.keepB b9 (by omega)
  obtain ⟨k1, k2, k3, k4, k5, k6⟩ := SB9.six
  have F2 := E2.keep t9 (fun k h => .inl h.2)
  have l7 := t9.size
  clear E1 E2 t9 b9 SB8 B8
  -- the second door: b, a, a
  go_wp2_with fail
  refine (F2.lost y zy (by unfold maxLen; omega) (by unfold maxLen; omega)).mono ?_
  rintro e W10 ⟨rfl, G2, t10⟩
  have b10 : Below lo2 W9 W10 := t10.toBelow (fun k h => h.1) (by omega)
  have B10 := below_chainB B9 b10 (by omega)
  clear k1 k2 k3 k4 k5 k6
  have SB10 := SB9.keepB b10 (by omega)
  obtain ⟨k1, k2, k3, k4, k5, k6⟩ := SB10.six
  have G1 := F1.keep t10 (fun k h => .inr h.1)
  have l8 := t10.size
  clear F1 F2 t10 b10 SB9 B9
  go_wp2_with fail
  refine (G2.lost x zx (by simp; unfold maxLen; omega) (by simp; unfold maxLen; omega)).mono ?_
  rintro e W11 ⟨rfl, H2, t11⟩
  have b11 : Below lo2 W10 W11 := t11.toBelow (fun k h => h.1) (by omega)
  have B11 := below_chainB B10 b11 (by omega)
  clear k1 k2 k3 k4 k5 k6
  have SB11 := SB10.keepB b11 (by omega)
  obtain ⟨k1, k2, k3, k4, k5, k6⟩ := SB11.six
  have H1 := G1.keep t11 (fun k h => .inr h.1)
  have l9 := t11.size
  clear G1 G2 t11 b11 SB10 B10
  go_wp2_with fail
  refine (H2.lost x zx (by simp; unfold maxLen; omega) (by simp; unfold maxLen; omega)).mono ?_
  rintro e W12 ⟨rfl, I2, t12⟩
  have b12 : Below lo2 W11 W12 := t12.toBelow (fun k h => h.1) (by omega)
  have B12 := below_chainB B11 b12 (by omega)
  clear k1 k2 k3 k4 k5 k6
  have SB12 := SB11.keepB b12 (by omega)
  obtain ⟨k1, k2, k3, k4, k5, k6⟩ := SB12.six
  have I1 := H1.keep t12 (fun k h => .inr h.1)
  clear H1 H2 t12 b12 SB11 B11
  rw [without_swap, without_swap] at I2
  -- the four checks
  obtain ⟨p1, m1, ai1, al1, ci1, cl1, Q1⟩ := I1.acc
  go_wp2_with fail
  refine (after_any true f1 p1 m1 ai1 al1 ci1 cl1 _ _ _ _ _ _ s1 s2 s3 _ x y _ Q1 (h1.below B12) (h2.below B12) (h3.below B12) n1 n2 n3 z3 zx zy (mem_one _ _ _)).mono ?_
  rintro e W13 ⟨rfl, b13⟩
  have B13 := below_chain B12 b13
  clear k1 k2 k3 k4 k5 k6
  have SB13 := SB12.keep b13
  obtain ⟨k1, k2, k3, k4, k5, k6⟩ := SB13.six
  replace I1 := I1.below b13
  replace I2 := I2.below b13
  clear Q1 b13 SB12 B12
  obtain ⟨p2, m2, ai2, al2, ci2, cl2, Q2⟩ := I1.rep
  go_wp2_with fail
  refine (after_any false f1 p2 m2 ai2 al2 ci2 cl2 _ _ _ _ _ _ s4 s5 s6 _ x y _ Q2 (h4.below B13) (h5.below B13) (h6.below B13) n4 n5 n6 z6 zx zy (mem_one _ _ _)).mono ?_
  rintro e W14 ⟨rfl, b14⟩
  have B14 := below_chain B13 b14
  clear k1 k2 k3 k4 k5 k6
  have SB14 := SB13.keep b14
  obtain ⟨k1, k2, k3, k4, k5, k6⟩ := SB14.six
  replace I2 := I2.below b14
  clear Q2 b14 SB13 B13 I1
  obtain ⟨p3, m3, ai3, al3, ci3, cl3, Q3⟩ := I2.acc
  go_wp2_with fail
  refine (after_any true f2 p3 m3 ai3 al3 ci3 cl3 _ _ _ _ _ _ s1 s2 s3 _ x y _ Q3 (h1.below B14) (h2.below B14) (h3.below B14) n1 n2 n3 z3 zx zy (mem_two _ _ _)).mono ?_
  rintro e W15 ⟨rfl, b15⟩
  have B15 := below_chain B14 b15
  clear k1 k2 k3 k4 k5 k6
  have SB15 := SB14.keep b15
  obtain ⟨k1, k2, k3, k4, k5, k6⟩ := SB15.six
  replace I2 := I2.below b15
  clear Q3 b15 SB14 B14
  obtain ⟨p4, m4, ai4, al4, ci4, cl4, Q4⟩ := I2.rep
  go_wp2_with fail
  refine (after_any false f2 p4 m4 ai4 al4 ci4 cl4 _ _ _ _ _ _ s4 s5 s6 _ x y _ Q4 (h4.below B15) (h5.below B15) (h6.below B15) n4 n5 n6 z6 zx zy (mem_two _ _ _)).mono ?_
  rintro e W16 ⟨rfl, b16⟩
  have B16 := below_chain B15 b16
  go_wp2
  go_ret
  exact ⟨rfl, B16⟩

end Go.Proofs.Qxb6615949a
