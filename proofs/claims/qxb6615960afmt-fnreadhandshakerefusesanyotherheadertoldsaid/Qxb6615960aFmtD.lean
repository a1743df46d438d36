import Derived.Test.Qxb6615960aFmtC
namespace Go.Proofs.Qxb6615960aFmt
open Go.RowKit
set_option linter.unusedSimpArgs false

theorem results_cell_tmp2 {fn : Func} {p u v : Tmp} {ty : TypeId} (h : fn.results = #[.cell p ty, .tmp u, .tmp v]) (tmps : Array Value) (P : Program) (w : World) :
    (results fn tmps).run P w =
      ((asAddr (tmps.getD p undef)).run P w).andThen fun a w₁ => ((loadVar ty a).run P w₁).andThen fun x w₂ => .ok (.tuple #[x, tmps.getD u undef, tmps.getD v undef]) w₂ := by
  simp only [results, h]
  simp [Sem.run_bind, Result.andThen]

set_option maxHeartbeats 4000000 in
set_option maxRecDepth 100000 in
theorem from_gen (Z R L : List UInt8) (ok : Value → Prop) (g n c : Nat) (w : World) (hZ : Z = zs 48) (hR : R.length = 48) (hL : BytesIn w g L) (h68 : 68 ≤ n) (hn : n ≤ 9223372036854775807)
    (hc : ∀ br W, W.heap[br]? = some (.cells (rdr g n c 0) 85 (0, 0)) → BytesIn W g L → br ≠ g → Calls Tryf.prog 30 #[.iface 68 (.pointer (some ⟨br, 0, none⟩))] W fun e w' => ∃ err, e = .returned (.tuple #[.agg (bs R).toArray, err]) ∧ ok err ∧
      w'.heap[br]? = some (.cells (rdr g n c 68) 85 (0, 0)) ∧ Touch (fun k => k = br) W w') :
    Calls Tryf.prog 16 #[.slice (some ⟨g, 0, none⟩) n c] w fun e w' => ∃ err, e = .returned (.tuple #[.agg (bs R).toArray, .int .i64 ((n : Int) - 68), err]) ∧ ok err ∧ Below w.heap.size w w' := by
  have z2 : ∀ w, (zeroValue 44).run Tryf.prog w = .ok (.agg (bs Z).toArray) w := by rw [hZ]; exact zero44
  have hZl : Z.length = 48 := by rw [hZ]; rfl
  have ZL := hide hZl
  have HC := hide hc
  have hg : g < w.heap.size := by obtain ⟨cur, t, hb, _⟩ := hL; exact block_lt hb
  have b0 : Below w.heap.size w (w.alloc (.cells (bs Z).toArray 44)) := (Below.refl _ _).alloc (Nat.le_refl _) _
  have hq0 : (w.alloc (.cells (bs Z).toArray 44)).heap[w.heap.size]? = some (.cells (bs Z).toArray 44 (0, 0)) := heap_alloc_new w _
  have hL0 := hL.keep (Touch.of_below (S := fun _ => False) b0) (by simp)
  have hs0 : (w.alloc (.cells (bs Z).toArray 44)).heap.size = w.heap.size + 1 := by simp
  clear hZ hZl hc
  go_enter Tryf.func16, Tryf.ntmps16
  go_wp2_with fail
  refine (newReader_any g n c _).mono ?_
  rintro e W1 ⟨rfl, hW1⟩
  have t1 : Touch (fun _ => False) (w.alloc (.cells (bs Z).toArray 44)) W1 := by rw [hW1]; exact Touch.of_below ((Below.refl _ _).alloc (Nat.le_refl _) _)
  have hr1 : W1.heap[w.heap.size + 1]? = some (.cells (rdr g n c 0) 85 (0, 0)) := by rw [hW1, ← hs0]; exact heap_alloc_new _ _
  have hq1 := t1.obj hq0 (by simp)
  have hL1 := hL0.keep t1 (by simp)
  have B1 : Below w.heap.size w W1 := b0.trans (t1.toBelow (by simp) (by omega))
  rw [hs0]
  have hz1 := block_lt hr1
  clear hW1 t1 hq0 hL0 hs0 b0
  go_wp2_with fail
  refine (HC.out (w.heap.size + 1) W1 hr1 hL1 (by omega)).mono ?_
  rintro e W2 ⟨err, rfl, herr, hr2, t2⟩
  have hq2 := t2.obj hq1 (by omega)
  have B2 : Below w.heap.size w W2 := B1.trans (t2.toBelow (fun k h => by omega) (by omega))
  have hz2 := Nat.lt_of_lt_of_le hz1 t2.size
  have t3 : Touch (fun _ => False) W2 (W2.alloc (.cells (bs Z).toArray 44)) := Touch.of_below ((Below.refl _ _).alloc (Nat.le_refl _) _)
  have hq3 := t3.obj hq2 (by simp)
  have hr3 := t3.obj hr2 (by simp)
  have hn3 : (W2.alloc (.cells (bs Z).toArray 44)).heap[W2.heap.size]? = some (.cells (bs Z).toArray 44 (0, 0)) := heap_alloc_new W2 _
  have B3 : Below w.heap.size w (W2.alloc (.cells (bs Z).toArray 44)) := B2.trans (t3.toBelow (by simp) (by omega))
  have e48 : (bs Z).toArray.size = 48 := by rw [List.size_toArray, bs_length, ZL.out]
  have f48 : (bs R).toArray.size = 48 := by rw [List.size_toArray, bs_length, hR]
  have st : (W2.alloc (.cells (bs Z).toArray 44)).there W2.heap.size 0 (bs R).toArray.size := by rw [f48]; exact there_of_block hn3 48 (by omega)
  have si : (Tryf.prog.info? 44).map (·.size) = some (bs R).toArray.size := by rw [f48]; exact Tryf.size44
  have t4 := touch_setCells W2.heap.size (bs R) 0 (W2.alloc (.cells (bs Z).toArray 44))
  have hq4 := t4.obj hq3 (by omega)
  have hr4 := t4.obj hr3 (by omega)
  have B4 : Below w.heap.size w ((W2.alloc (.cells (bs Z).toArray 44)).setCells W2.heap.size 0 (bs R)) := B3.trans (t4.toBelow (fun k h => by omega) (by simp; omega))
  have hg4 : ((W2.alloc (.cells (bs Z).toArray 44)).setCells W2.heap.size 0 (bs R)).rangeAt W2.heap.size 0 (bs R) := World.rangeAt_setCells_same _ W2.heap.size 0 _ (by rw [← List.size_toArray]; exact st)
  have th4 : ((W2.alloc (.cells (bs Z).toArray 44)).setCells W2.heap.size 0 (bs R)).there w.heap.size 0 48 := there_of_block hq4 48 (by omega)
  have SI := hide si
  have F48 := hide f48
  clear t2 t3 t4 hq1 hq2 hq3 hr1 hr2 hr3 hn3 B1 B2 B3 e48 f48 si hL1
  go_wp2_with (first | (refine wpList_store_mid (by rfl) 44 (.tmp 6) (.tmp 14) (by rfl) W2.heap.size 0 (bs R).toArray (by rfl) (by rfl) st SI.out (all_oneCell_toArray (bs_one _)) ?_))
  clear st
  change Code.wp _ _ _ _ ((W2.alloc (.cells (bs Z).toArray 44)).setCells W2.heap.size 0 (bs R))
  generalize (W2.alloc (.cells (bs Z).toArray 44)).setCells W2.heap.size 0 (bs R) = W4 at *
  generalize W2.heap.size = N6 at *
  have hu := Tryf.underlying44
  have hcl : (bs R).length = 48 := by rw [bs_length, hR]
  have hi : (Tryf.prog.info? 44).map (·.size) = some (bs R).length := by rw [hcl]; exact Tryf.size44
  have h1 := bs_one R
  refine wp_region_noPanic ?_
  refine wp_region_held_drew (S := fun w' => w'.rangeAt N6 0 (bs R) ∧ w'.there w.heap.size 0 48) (by kernel_rfl) ⟨hg4, th4⟩ (fun hHeld => ?_)
  refine wpAnyH_take (i := 0) (oi := ⟨some 16, _, _, _, _, _⟩) (v := .agg (bs R).toArray) rfl (by kernel_rfl) (by kernel_rfl) (by kernel_rfl) (fun _ _ _ h => h) (yieldsIf_load_mid (by rfl) 44 (.tmp 6) rfl N6 0 rfl (bs R) _ (fun _ h => h.1) hu rfl hi) hHeld ?_
  simp only [Act.put, List.setIfInBounds_toArray, List.set_cons_zero, List.set_cons_succ]
  refine wpAnyH_take (i := 1) (oi := ⟨some 17, _, _, _, _, _⟩) (v := .pointer (some ⟨w.heap.size + 1, 0, none⟩)) rfl (by kernel_rfl) (by kernel_rfl) (by kernel_rfl) (fun _ _ _ h => h) (Or.inl ⟨by rfl, fun _ _ => rfl⟩) hHeld ?_
  simp only [Act.put, List.setIfInBounds_toArray, List.set_cons_zero, List.set_cons_succ]
  refine wpAnyH_take (i := 3) (oi := ⟨some 19, _, _, _, _, _⟩) (v := err) rfl (by kernel_rfl) (by kernel_rfl) (by kernel_rfl) (fun _ _ _ h => h) (Or.inl ⟨by rfl, fun _ _ => rfl⟩) hHeld ?_
  simp only [Act.put, List.setIfInBounds_toArray, List.set_cons_zero, List.set_cons_succ]
  refine wpAnyH_ready (rs := [2]) (by kernel_rfl) (by simp) ?_
  refine AllReadyH.cons rfl (fun K hK => ?_) AllReadyH.nil
  go_simp
  refine (readerLen_any (w.heap.size + 1) g n c W4.drew hr4 h68 hn).mono ?_
  rintro e W5 ⟨rfl, m, hW5⟩
  have s1 : W5.rangeAt N6 0 (bs R) := by rw [hW5]; exact hg4
  have s2 : W5.there w.heap.size 0 48 := by rw [hW5]; exact th4
  have t5 : Touch (fun _ => False) W4 W5 := by rw [hW5]; exact ⟨rfl, rfl, rfl, Nat.le_refl _, fun _ _ _ => rfl⟩
  clear hW5
  refine hK.out _ _ ⟨s1, s2⟩ (fun hHeld2 => ?_)
  clear hK K
  refine wpAnyH_ready (rs := [4]) (by kernel_rfl) (by simp) ?_
  refine AllReadyH.cons rfl (fun K hK => ?_) AllReadyH.nil
  rw [if_pos (by rfl)]
  refine wp_store_mid 44 (.tmp 2) (.tmp 16) rfl w.heap.size 0 (bs R).toArray rfl rfl (by rw [F48.out]; exact s2) SI.out (all_oneCell_toArray h1) ?_
  have t6 := touch_setCells w.heap.size (bs R) 0 W5
  have s3 : (W5.setCells w.heap.size 0 (bs R)).rangeAt w.heap.size 0 (bs R) := World.rangeAt_setCells_same W5 w.heap.size 0 _ (by rw [hcl]; exact s2)
  have B6 : Below w.heap.size w (W5.setCells w.heap.size 0 (bs R)) := (B4.trans (t5.toBelow (by simp) B4.size)).trans (t6.toBelow (fun k h => by omega) (Nat.le_trans B4.size t5.size))
  have lv := loadVar44 hR s3
  refine hK.out _ (W5.setCells w.heap.size 0 (bs R)) ⟨World.rangeAt_setCells_apart s1 _ _ _ (.inl (by omega)), World.there_setCells s2 _ _ _⟩ (fun hHeld3 => ?_)
  clear hK K
  simp only [Act.put, List.setIfInBounds_toArray, List.set_cons_zero, List.set_cons_succ]
  refine wpAnyH_take (i := 5) (oi := ⟨some 3, _, _, _, _, _⟩) (v := .int .i64 ((n : Int) - 68)) rfl (by kernel_rfl) (by kernel_rfl) (by kernel_rfl) (fun _ _ _ h => h) (Or.inl ⟨by rfl, fun _ _ => rfl⟩) hHeld3 ?_
  simp only [Act.put, List.setIfInBounds_toArray, List.set_cons_zero, List.set_cons_succ]
  refine wpAnyH_take (i := 6) (oi := ⟨some 4, _, _, _, _, _⟩) (v := err) rfl (by kernel_rfl) (by kernel_rfl) (by kernel_rfl) (fun _ _ _ h => h) (Or.inl ⟨by rfl, fun _ _ => rfl⟩) hHeld3 ?_
  simp only [Act.put, List.setIfInBounds_toArray, List.set_cons_zero, List.set_cons_succ]
  refine wpAnyH_done (by kernel_rfl) ?_ _
  refine NoPanic.normal ?_
  go_wp2
  refine bodyPost_ret (v := .tuple #[.agg (bs R).toArray, .int .i64 ((n : Int) - 68), err]) ?_ rfl ⟨err, rfl, herr, B6⟩
  have hres : ∀ (tmps : Array Value), tmps.getD 2 undef = .pointer (some ⟨w.heap.size, 0, none⟩) → tmps.getD 3 undef = .int .i64 ((n : Int) - 68) → tmps.getD 4 undef = err →
      (results Tryf.f16 tmps).run Tryf.prog (W5.setCells w.heap.size 0 (bs R)) = .ok (.tuple #[.agg (bs R).toArray, .int .i64 ((n : Int) - 68), err]) (W5.setCells w.heap.size 0 (bs R)) := by
    intro tmps g2 g3 g4
    rw [results_cell_tmp2 Tryf.results16, g2, g3, g4]
    show Result.andThen ((loadVar 44 ⟨w.heap.size, 0, none⟩).run Tryf.prog (W5.setCells w.heap.size 0 (bs R))) _ = _
    rw [lv]
    rfl
  exact hres _ rfl rfl rfl

end Go.Proofs.Qxb6615960aFmt
