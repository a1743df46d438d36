import Derived.Test.Qxb6615960aFmtF
namespace Go.Proofs.Qxb6615960aFmt
open Go.RowKit
set_option linter.unusedSimpArgs false

set_option maxHeartbeats 4000000 in
set_option maxRecDepth 100000 in
theorem law_any (R I P T : List UInt8) (a : Option Addr) (c : Nat) (k : Int) (f : UInt8) (w : World) (hR : R.length = 8) (hI : I.length = 20) (hP : P.length = 20) (hT : BytesAt w a T) (ha : a = none → T = [] ∧ c = 0) (hn : T.length ≤ 140737488351232) :
    Calls Tryf.prog 6 #[.agg (bs R).toArray, .agg (bs I).toArray, .agg (bs P).toArray, .slice a T.length c, .int .i64 k, .int .u8 f.toNat] w fun e w' => e = .returned (.bool true) ∧ Below w.heap.size w w' := by
  have B0 : Below w.heap.size w (((w.alloc (.cells (bs R).toArray 41)).alloc (.cells (bs I).toArray 42)).alloc (.cells (bs P).toArray 42)) := by repeat (first | exact Below.refl _ _ | refine Below.alloc ?_ (by simp <;> omega) _)
  have X0 : Boxes (((w.alloc (.cells (bs R).toArray 41)).alloc (.cells (bs I).toArray 42)).alloc (.cells (bs P).toArray 42)) w.heap.size R I P := by
    refine ⟨?_, ?_, ?_⟩
    · rw [Below.heap_alloc _ _ _ (by simp <;> omega), Below.heap_alloc _ _ _ (by simp)]; exact heap_alloc_new w _
    · rw [Below.heap_alloc _ _ _ (by simp)]
      have := heap_alloc_new (w.alloc (.cells (bs R).toArray 41)) (.cells (bs I).toArray 42)
      simpa using this
    · have := heap_alloc_new ((w.alloc (.cells (bs R).toArray 41)).alloc (.cells (bs I).toArray 42)) (.cells (bs P).toArray 42)
      simpa using this
  have s41 : (Tryf.prog.info? 41).map (·.size) = some (bs R).length := by rw [bs_length, hR]; exact Tryf.size41
  have s42 : (Tryf.prog.info? 42).map (·.size) = some (bs I).length := by rw [bs_length, hI]; exact Tryf.size42
  have s43 : (Tryf.prog.info? 42).map (·.size) = some (bs P).length := by rw [bs_length, hP]; exact Tryf.size42
  have S41 := hide s41
  have S42 := hide s42
  have S43 := hide s43
  have HR := hide hR
  have HI := hide hI
  have HP := hide hP
  clear hR hI hP s41 s42 s43
  have r1 := whole X0.1
  have r2 := whole X0.2.1
  have r3 := whole X0.2.2
  go_enter Tryf.func6, Tryf.ntmps6
  go_wp2_with (first
    | (refine wpList_load_mid (by rfl) 41 (.tmp 6) (by rfl) w.heap.size 0 (by rfl) (bs R) _ r1 Tryf.underlying41 rfl S41.out ?_)
    | (refine wpList_load_mid (by rfl) 42 (.tmp 7) (by rfl) (w.heap.size + 1) 0 (by rfl) (bs I) _ r2 Tryf.underlying42 rfl S42.out ?_)
    | (refine wpList_load_mid (by rfl) 42 (.tmp 8) (by rfl) (w.heap.size + 2) 0 (by rfl) (bs P) _ r3 Tryf.underlying42 rfl S43.out ?_)
    | fail)
  refine (bytes_any _ _ _ _ _ _ _ _ _ (by omega)).mono ?_
  rintro e W1 ⟨⟨r, rfl⟩, b1⟩
  have B1 := below_chain B0 b1
  have X1 := X0.keep b1
  have zN : w.heap.size + 3 ≤ W1.heap.size := by have := b1.size; simp at this; omega
  clear B0 X0 b1 r1 r2 r3
  cases r with
  | false =>
    go_wp2
    go_ret
    exact ⟨rfl, B1⟩
  | true =>
  by_cases h1 : 524288 < (T.length : Int)
  · go_wp2
    go_ret
    exact ⟨rfl, B1⟩
  by_cases hk0 : k < 0
  · go_wp2
    go_ret
    exact ⟨rfl, B1⟩
  by_cases hk1 : 19 < k
  · go_wp2
    go_ret
    exact ⟨rfl, B1⟩
  by_cases hf : f = 0
  · have hf1 : (((f.toNat : Nat) : Int) == 0) = true := by rw [hf]; rfl
    go_wp2
    go_ret
    exact ⟨rfl, B1⟩
  have hf1 : (((f.toNat : Nat) : Int) == 0) = false := by
    rw [beq_eq_false_iff_ne]
    intro e
    exact hf (UInt8.toNat_inj.1 (by show f.toNat = 0; omega))
  obtain ⟨j, rfl⟩ : ∃ j : Nat, k = j := ⟨k.toNat, by omega⟩
  have gl := good_length R I P T HR.out HI.out HP.out
  have GL := hide gl
  clear gl
  obtain ⟨i0, hi, hz0, hz1, hz2⟩ := info_parts Tryf.info5
  go_wp2_with (first
    | (at_make; refine wpList_make_own _ rfl _ _ 22 rfl W1.heap.size 5 i0 (.int .u8 0) 1 Tryf.underlying22 hi hz0 hz1 .i64 .i64 _ (68 + T.length) rfl rfl (by simp) (by rw [hz2]; omega) (by unfold maxLen; omega) (Nat.le_refl _) ?_; intro W2 o2 g2; have b2 := (Below.refl W1.heap.size W1).grown g2 (Nat.le_refl _) (by simp))
    | (at_builtin; refine wpList_append_fits _ rfl (.tmp 47) (.tmp 48) 22 rfl W1.heap.size 5 i0 1 Tryf.underlying22 hi hz1 W1.heap.size 0 (68 + T.length) [] rfl (o2.alloc _) ⟨W2.heap.size, 0, none⟩ 1 1 (bs [19]) rfl rfl (World.news_of_block (heap_alloc_new W2 _)) (bs_one _) (by omega) ?_; intro W3 o3 g3; have b3 := (b2.alloc b2.size (.cells #[.int .u8 19] 5)).grown g3 (by have := b2.size; simp; omega) (fun k h => by cases h; exact Nat.le_refl _))
    | (at_builtin; refine wpList_append_fits_string _ rfl (.tmp 50) _ 22 9 rfl W1.heap.size 5 i0 Tryf.underlying22 Tryf.underlying9 hi hz1 W1.heap.size 1 (68 + T.length) (bs [19]) rfl (by exact o3) _ rfl 19 rfl (by omega) ?_; intro W4 o4 g4; have b4 := b3.grown g4 b3.size (fun k h => by cases h; exact Nat.le_refl _); have X4 := X1.keep b4)
    | (at_builtin; refine wpList_append_fits _ rfl (.tmp 52) (.tmp 53) 22 rfl W1.heap.size 5 i0 1 Tryf.underlying22 hi hz1 W1.heap.size 20 (68 + T.length) _ rfl (by exact o4) ⟨w.heap.size, 0, none⟩ 8 8 (bs R) rfl (by rw [bs_length, HR.out]) (src_of_range (whole X4.1)) (bs_one _) (by omega) ?_; intro W5 o5 g5; have b5 := b4.grown g5 b4.size (fun k h => by cases h; exact Nat.le_refl _); have X5 := X1.keep b5)
    | (at_builtin; refine wpList_append_fits _ rfl (.tmp 55) (.tmp 56) 22 rfl W1.heap.size 5 i0 1 Tryf.underlying22 hi hz1 W1.heap.size 28 (68 + T.length) _ rfl (by exact o5) ⟨w.heap.size + 1, 0, none⟩ 20 20 (bs I) rfl (by rw [bs_length, HI.out]) (src_of_range (whole X5.2.1)) (bs_one _) (by omega) ?_; intro W6 o6 g6; have b6 := b5.grown g6 b5.size (fun k h => by cases h; exact Nat.le_refl _); have X6 := X1.keep b6)
    | (at_builtin; refine wpList_append_fits _ rfl (.tmp 58) (.tmp 59) 22 rfl W1.heap.size 5 i0 1 Tryf.underlying22 hi hz1 W1.heap.size 48 (68 + T.length) _ rfl (by exact o6) ⟨w.heap.size + 2, 0, none⟩ 20 20 (bs P) rfl (by rw [bs_length, HP.out]) (src_of_range (whole X6.2.2)) (bs_one _) (by omega) ?_; intro W7 o7 g7; have b7 := b6.grown g7 b6.size (fun k h => by cases h; exact Nat.le_refl _); have T7 := hT.below (below_chain B1 b7))
    | (at_builtin; refine wpList_append_fits_any _ rfl (.tmp 61) (.tmp 62) 22 rfl W1.heap.size 5 i0 1 Tryf.underlying22 hi hz1 W1.heap.size 68 (68 + T.length) _ rfl (by exact o7) a T.length c (bs T) rfl (by rw [bs_length]; omega) (fun e => by have := ha e; rw [this.1]; exact ⟨rfl, this.2⟩) T7.news (bs_one _) (by omega) ?_; intro W8 o8 g8; have b8 := b7.grown g8 b7.size (fun k h => by cases h; exact Nat.le_refl _))
    | (at_make; refine wpList_make_full _ rfl _ _ 22 rfl W8.heap.size 5 i0 (.int .u8 0) 1 Tryf.underlying22 hi hz0 hz1 .i64 .i64 _ _ (68 + T.length) rfl rfl (by simp) (by simp) (by rw [hz2]; omega) (by unfold maxLen; omega) (Nat.le_refl _) ?_; intro W9 o9 g9; have L8 : BytesIn W8 W1.heap.size (good R I P T) := bytesIn_of_own (by rw [← good_cells]; exact o8); have L9 := L8.keep (Touch.of_grown (S := fun _ => False) g9 (by simp)) (by simp); obtain ⟨cur, hcur, hcl⟩ := block_of_own o9; have CL := hide hcl; clear hcl; have hz8 : W1.heap.size < W8.heap.size := by { obtain ⟨_, _, hb, _⟩ := L8; exact block_lt hb }; have HZ := hide hz8)
    | (refine wpList_copy_touch (by rfl) (.tmp 67) (.tmp 68) 22 22 (by rfl) 5 Tryf.underlying22 Tryf.size5 W8.heap.size 0 (68 + T.length) (68 + T.length) ⟨W1.heap.size, 0, none⟩ (68 + T.length) (68 + T.length) (by rfl) (by rfl) cur 5 hcur (bs (good R I P T)) (68 + T.length) (by rw [bs_length, GL.out]) (Nat.min_self _).symm (src_of_range (fun j v hj => by rw [Nat.zero_add]; exact L9.cell hj)) (by rw [bs_length, GL.out, CL.out]; omega) (bs_one _) ?_; intro W10 hc10 t10; rw [splice_all _ _ (by rw [CL.out, bs_length, GL.out])] at hc10; have M10 : BytesIn W10 W8.heap.size (good R I P T) := ⟨_, 5, hc10, by rw [List.toList_toArray, List.take_of_length_le (by rw [bs_length]; omega)]⟩; have cj := bytesIn_at M10 (j := j) (by rw [GL.out]; omega); have fj := frozen_of hc10 j))
  rw [← List.getD_eq_getElem?_getD, xor_byte]
  have M11 := bytesIn_set (j := j) M10 ((good R I P T).getD j 0 ^^^ f)
  have t11 := Touch.setCell (S := fun k => k = W8.heap.size) W10 ⟨W8.heap.size, j, none⟩ (.int .u8 ((good R I P T).getD j 0 ^^^ f).toNat) rfl
  have L11 := (L9.keep t10 (by have := HZ.out; omega)).keep t11 (by have := HZ.out; omega)
  have b9 : Below W1.heap.size W1 W9 := b8.grown g9 b8.size (by simp)
  have b11 : Below W1.heap.size W1 (W10.setCell ⟨W8.heap.size, j, none⟩ (.int .u8 ((good R I P T).getD j 0 ^^^ f).toNat)) :=
    (b9.trans (t10.toBelow (fun k h => by have := HZ.out; omega) b9.size)).trans (t11.toBelow (fun k h => by have := HZ.out; omega) (Nat.le_trans b9.size t10.size))
  have hjl : j < (good R I P T).length := by rw [GL.out]; omega
  have hbad := hide (bad_head R I P T j f (by omega) hf hjl)
  have hset : Hid (((good R I P T).set j ((good R I P T).getD j 0 ^^^ f)).length = 68 + T.length) := by rw [List.length_set]; exact GL
  have hmid := hide (good_mid R I P T HR.out HI.out HP.out)
  have hhead := hide (good_head R I P T)
  clear cj fj M10 hc10 t10 t11 L9 L8 hcur CL o9 g9 o8 g8 o7 g7 o6 g6 o5 g5 o4 g4 o3 g3 o2 g2 b2 b3 b4 b5 b6 b7 b8 b9 X4 X5 X6 T7 hjl
  generalize (good R I P T).set j ((good R I P T).getD j 0 ^^^ f) = Lb at *
  generalize W10.setCell ⟨W8.heap.size, j, none⟩ (.int .u8 ((good R I P T).getD j 0 ^^^ f).toNat) = W11 at *
  generalize good R I P T = Lg at *
  generalize hG : W1.heap.size = G at *
  rw [← hG] at b11
  have HG := hide hG
  clear hG
  generalize W8.heap.size = H at *
  obtain ⟨Z, hZ, hZe⟩ : ∃ Z : List UInt8, Z.length = 48 ∧ zs 48 = Z := ⟨zs 48, rfl, rfl⟩
  have z2 : ∀ w, (zeroValue 44).run Tryf.prog w = .ok (.agg (bs Z).toArray) w := by intro w; rw [← hZe]; exact zero44 w
  obtain ⟨M, hM, hMe⟩ : ∃ M : List UInt8, M.length = 48 ∧ R ++ I ++ P = M := ⟨R ++ I ++ P, by simp [HR.out, HI.out, HP.out], rfl⟩
  have fg := from_ok Lg G (68 + T.length) (68 + T.length) W11 L11 GL.out (by omega) (by omega) hhead.out
  rw [hmid.out, hMe] at fg
  have HZ48 := hide hZ
  have HM48 := hide hM
  have HZe := hide hZe
  have HMe := hide hMe
  have sM : Hid ((Tryf.prog.info? 44).map (·.size) = some (bs M).toArray.size) := hide (by rw [List.size_toArray, bs_length, hM]; exact Tryf.size44)
  have sZ : Hid ((Tryf.prog.info? 44).map (·.size) = some (bs Z).toArray.size) := hide (by rw [List.size_toArray, bs_length, hZ]; exact Tryf.size44)
  clear hZ hM hZe hMe
  refine fg.mono ?_
  rintro e W12 ⟨rfl, b12⟩
  have b12' := below_chain b11 b12
  have M12 := M11.keep (Touch.of_below (S := fun _ => False) b12) (by simp)
  clear fg L11 M11 b11 b12
  obtain ⟨st1, q1, c1⟩ := box44 W12 Z M HZ48.out HM48.out
  go_wp2_with (first | (refine wpList_store_mid (by rfl) 44 (.tmp 15) (.tmp 82) (by rfl) W12.heap.size 0 (bs M).toArray (by rfl) (by rfl) st1 sM.out (all_oneCell_toArray (bs_one _)) ?_))
  change Calls _ _ _ ((W12.alloc (.cells (bs Z).toArray 44)).setCells W12.heap.size 0 (bs M)) _
  clear st1
  have M13 := M12.keep (Touch.of_below (S := fun _ => False) c1) (by simp)
  have b13 := below_chain b12' c1
  generalize (W12.alloc (.cells (bs Z).toArray 44)).setCells W12.heap.size 0 (bs M) = W13 at *
  clear M12 b12' c1
  generalize W12.heap.size = N1 at *
  have fb := from_bad Lb H (68 + T.length) (68 + T.length) W13 M13 hset.out (by omega) (by omega) hbad.out
  rw [HZe.out] at fb
  refine fb.mono ?_
  rintro e W14 ⟨p, rfl, b14⟩
  have b14' := below_chain b13 b14
  have q1' := range_keep q1 b14
  clear fb M13 b13 b14 q1
  obtain ⟨st2, q2, c2⟩ := box44 W14 Z Z HZ48.out HZ48.out
  have q1 := range_keep q1' c2
  have b15 := below_chain b14' c2
  have X15 := X1.keep b15
  clear X1
  have hbm : Hid (Tryf.prog.built 44 [(0, .agg (bs R).toArray), (1, .agg (bs I).toArray), (2, .agg (bs P).toArray)] = some (bs M).toArray) := hide (by rw [← HMe.out]; exact built44 R I P HR.out HI.out HP.out)
  have hbz : Hid (Tryf.prog.built 44 [] = some (bs Z).toArray) := hide (by rw [← HZe.out]; exact built44_zero)
  have rr1 := whole X15.1
  have rr2 := whole X15.2.1
  have rr3 := whole X15.2.2
  go_wp2_with (first
    | (refine wpList_store_mid (by rfl) 44 (.tmp 18) (.tmp 88) (by rfl) W14.heap.size 0 (bs Z).toArray (by rfl) (by rfl) st2 sZ.out (all_oneCell_toArray (bs_one _)) ?_; dsimp only [List.toList_toArray]; generalize (W14.alloc (.cells (bs Z).toArray 44)).setCells W14.heap.size 0 (bs Z) = W15 at *; clear c2 b14' q1' st2)
    | (refine wpList_load_mid (by rfl) 41 (.tmp 6) (by rfl) w.heap.size 0 (by rfl) (bs R) _ rr1 Tryf.underlying41 rfl S41.out ?_)
    | (refine wpList_load_mid (by rfl) 42 (.tmp 7) (by rfl) (w.heap.size + 1) 0 (by rfl) (bs I) _ rr2 Tryf.underlying42 rfl S42.out ?_)
    | (refine wpList_load_mid (by rfl) 42 (.tmp 8) (by rfl) (w.heap.size + 2) 0 (by rfl) (bs P) _ rr3 Tryf.underlying42 rfl S43.out ?_)
    | (refine wpList_build3 (by rfl) 44 (.tmp 91) (.tmp 92) (.tmp 93) (by rfl) _ _ _ (by rfl) (by rfl) (by rfl) (bs M).toArray hbm.out ?_)
    | (refine wpList_load44_want (.tmp 15) (by rfl) N1 M HM48.out q1'' (by rfl) (by rfl) ?_)
    | (refine wpList_load44_want (.tmp 21) (by rfl) W15.heap.size M HM48.out q3 (by rfl) (by rfl) ?_)
    | (refine wpList_load44_want (.tmp 18) (by rfl) W14.heap.size Z HZ48.out q2' (by rfl) (by rfl) ?_)
    | (refine wpList_eq44_want (.tmp 98) (.tmp 99) (by rfl) M HM48.out (by rfl) (by rfl) (by rfl) ?_)
    | (refine wpList_zero44_want (by rfl) (bs Z).toArray hbz.out (by rfl) ?_)
    | (refine wpList_eq44_want (.tmp 113) (.tmp 114) (by rfl) Z HZ48.out (by rfl) (by rfl) (by rfl) ?_)
    | (refine wpList_store_mid (by rfl) 44 (.tmp 21) (.tmp 94) (by rfl) W15.heap.size 0 (bs M).toArray (by rfl) (by rfl) (box44 W15 Z M HZ48.out HM48.out).1 sM.out (all_oneCell_toArray (bs_one _)) ?_; dsimp only [List.toList_toArray]; obtain ⟨_, q3, c3⟩ := box44 W15 Z M HZ48.out HM48.out; have q1'' := range_keep q1 c3; have q2' := range_keep q2 c3; have b16 := below_chain b15 c3; clear q1 q2 b15 rr1 rr2 rr3 X15; generalize (W15.alloc (.cells (bs Z).toArray 44)).setCells W15.heap.size 0 (bs M) = W16 at *; clear c3))
  go_ret
  exact ⟨rfl, below_chain B1 b16⟩

end Go.Proofs.Qxb6615960aFmt
