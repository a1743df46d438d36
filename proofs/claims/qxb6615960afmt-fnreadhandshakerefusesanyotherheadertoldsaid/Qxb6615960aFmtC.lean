import Derived.Test.Qxb6615960aFmtB
namespace Go.Proofs.Qxb6615960aFmt
open Go.RowKit

theorem errNew_below (s : ByteArray) (w : World) :
    Calls Tryf.prog 33 #[.string s] w fun e w' => (∃ p, e = .returned (.iface 99 (.pointer p))) ∧ Below w.heap.size w w' :=
  (errNew_any s w).mono fun _ _ ⟨he, hw⟩ => ⟨⟨_, he⟩, hw ▸ (Below.refl _ _).alloc (Nat.le_refl _) _⟩

set_option maxHeartbeats 4000000 in
set_option maxRecDepth 100000 in
theorem readHandshake_badZ (Z : List UInt8) (hZ : Z = zs 48) (br g n c : Nat) (L : List UInt8) (w : World) (hr : w.heap[br]? = some (.cells (rdr g n c 0) 85 (0, 0))) (hL : BytesIn w g L) (hn : L.length = n) (h68 : 68 ≤ n) (n3 : br ≠ g) (hh : L.take 20 ≠ 19 :: proto) :
    Calls Tryf.prog 30 #[.iface 68 (.pointer (some ⟨br, 0, none⟩))] w fun e w' => ∃ p, e = .returned (.tuple #[.agg (bs Z).toArray, .iface 99 (.pointer p)]) ∧
      w'.heap[br]? = some (.cells (rdr g n c 68) 85 (0, 0)) ∧ Touch (fun k => k = br) w w' := by
  have z1 := zero88
  have z2 : ∀ w, (zeroValue 44).run Tryf.prog w = .ok (.agg (bs Z).toArray) w := by rw [hZ]; exact zero44
  have hZl : Z.length = 48 := by rw [hZ]; rfl
  have e48 : (bs Z).toArray.size = 48 := by rw [List.size_toArray, bs_length, hZl]
  have si : (Tryf.prog.info? 44).map (·.size) = some (bs Z).toArray.size := by rw [e48]; exact Tryf.size44
  have SI := hide si
  have ZL := hide hZl
  have E48 := hide e48
  clear hZ hZl si e48
  have HN := hide hn
  have b0 := block_lt hr
  have t0 : Touch (fun _ => False) w ((w.alloc (.cells (bs Z).toArray 44)).alloc (.cells (zc 68) 88)) := Touch.of_below (((Below.refl _ _).alloc (by simp) _).alloc (by simp) _)
  have hr0 := t0.obj hr (by simp)
  have hL0 := hL.keep t0 (by simp)
  have hp0 : ((w.alloc (.cells (bs Z).toArray 44)).alloc (.cells (zc 68) 88)).heap[w.heap.size + 1]? = some (.cells (bs (zs 68)).toArray 88 (0, 0)) := by
    have := heap_alloc_new (w.alloc (.cells (bs Z).toArray 44)) (.cells (zc 68) 88)
    simpa [zc_eq] using this
  have hq0 : ((w.alloc (.cells (bs Z).toArray 44)).alloc (.cells (zc 68) 88)).heap[w.heap.size]? = some (.cells (bs Z).toArray 44 (0, 0)) := by
    rw [Below.heap_alloc _ _ _ (by simp)]; exact heap_alloc_new w _
  have hz0 : w.heap.size + 1 < ((w.alloc (.cells (bs Z).toArray 44)).alloc (.cells (zc 68) 88)).heap.size := by simp
  have T0 := hide t0
  clear hn t0 hr hL
  go_enter Tryf.func30, Tryf.ntmps30
  go_wp2_with fail
  refine (readFull_any br g (w.heap.size + 1) n c L (bs (zs 68)) 88 _ hr0 hL0 HN.out h68 hp0 (by rw [bs_length]; rfl) (by omega) n3).mono ?_
  rintro e W1 ⟨rfl, hp1, hr1, t1⟩
  have hq1 := t1.obj hq0 (by omega)
  have hz1 := Nat.lt_of_lt_of_le hz0 t1.size
  have T1 : Hid (Touch (fun k => k = br) w W1) := ⟨t1.os.trans T0.out.os, t1.tape.trans T0.out.tape, t1.output.trans T0.out.output, Nat.le_trans T0.out.size t1.size, fun k hk hne => (t1.block k (Nat.lt_of_lt_of_le hk T0.out.size) (by omega)).trans (T0.out.block k hk (by simp))⟩
  clear t1 hp0 hq0 hr0 hL0 T0 hz0
  obtain ⟨b, l1, hL1⟩ : ∃ b l1, L = b :: l1 := by
    match L, HN.out with
    | [], h => simp at h; omega
    | b :: l1, _ => exact ⟨b, l1, rfl⟩
  have c0 : W1.cell? ⟨w.heap.size + 1, 0, none⟩ = some (.int .u8 b.toNat) := by
    refine range_of_block hp1 0 68 0 _ ?_
    rw [List.drop_zero, List.take_take, bs, List.getElem?_map, hL1]
    rfl
  by_cases hb : b = 19
  · have hb1 : ((b.toNat : Int) != 19) = false := by rw [hb]; rfl
    have cv := Lib.run_convert_bytes_const (P := Tryf.prog) W1 22 5 #[.int .u8 66, .int .u8 105, .int .u8 116, .int .u8 84, .int .u8 111, .int .u8 114, .int .u8 114, .int .u8 101, .int .u8 110, .int .u8 116, .int .u8 32, .int .u8 112, .int .u8 114, .int .u8 111, .int .u8 116, .int .u8 111, .int .u8 99, .int .u8 111, .int .u8 108] 19 19 Tryf.underlying22 Tryf.underlying5
    have t2 : Touch (fun _ => False) W1 (W1.alloc (.cells #[.int .u8 66, .int .u8 105, .int .u8 116, .int .u8 84, .int .u8 111, .int .u8 114, .int .u8 114, .int .u8 101, .int .u8 110, .int .u8 116, .int .u8 32, .int .u8 112, .int .u8 114, .int .u8 111, .int .u8 116, .int .u8 111, .int .u8 99, .int .u8 111, .int .u8 108] 5 (19, 20))) := Touch.of_below ((Below.refl _ _).alloc (Nat.le_refl _) _)
    have hp2 := t2.obj hp1 (by simp)
    have hq2 := t2.obj hq1 (by simp)
    have hr2 := t2.obj hr1 (by simp)
    have hc2 : (W1.alloc (.cells #[.int .u8 66, .int .u8 105, .int .u8 116, .int .u8 84, .int .u8 111, .int .u8 114, .int .u8 114, .int .u8 101, .int .u8 110, .int .u8 116, .int .u8 32, .int .u8 112, .int .u8 114, .int .u8 111, .int .u8 116, .int .u8 111, .int .u8 99, .int .u8 111, .int .u8 108] 5 (19, 20))).rangeAt W1.heap.size 0 (bs proto) := range_of_block (X := proto) (heap_alloc_new W1 (.cells #[.int .u8 66, .int .u8 105, .int .u8 116, .int .u8 84, .int .u8 111, .int .u8 114, .int .u8 114, .int .u8 101, .int .u8 110, .int .u8 116, .int .u8 32, .int .u8 112, .int .u8 114, .int .u8 111, .int .u8 116, .int .u8 111, .int .u8 99, .int .u8 111, .int .u8 108] 5 (19, 20))) 0 19
    have hz2 := Nat.lt_of_lt_of_le hz1 t2.size
    have T2 : Hid (Touch (fun k => k = br) w (W1.alloc (.cells #[.int .u8 66, .int .u8 105, .int .u8 116, .int .u8 84, .int .u8 111, .int .u8 114, .int .u8 114, .int .u8 101, .int .u8 110, .int .u8 116, .int .u8 32, .int .u8 112, .int .u8 114, .int .u8 111, .int .u8 116, .int .u8 111, .int .u8 99, .int .u8 111, .int .u8 108] 5 (19, 20)))) := T1.out.trans (t2.mono (by simp))
    clear t2 hp1 hq1 hr1 hz1 T1
    go_wp2_with fail
    clear cv c0
    generalize W1.alloc (.cells #[.int .u8 66, .int .u8 105, .int .u8 116, .int .u8 84, .int .u8 111, .int .u8 114, .int .u8 114, .int .u8 101, .int .u8 110, .int .u8 116, .int .u8 32, .int .u8 112, .int .u8 114, .int .u8 111, .int .u8 116, .int .u8 111, .int .u8 99, .int .u8 111, .int .u8 108] 5 (19, 20)) = W2 at *
    have hx2 := range_of_block hp2 1 19
    have hXn : (((L.take 68).drop 1).take 19 == proto) = false := by
      rw [beq_eq_false_iff_ne]
      intro e
      apply hh
      have e2 : ((L.take 68).drop 1).take 19 = (L.take 20).drop 1 := by
        rw [List.drop_take, List.drop_take, List.take_take]; rfl
      rw [e2, hL1, hb] at e
      rw [hL1, hb]
      show 19 :: l1.take 19 = _
      rw [show (List.take 20 (19 :: l1)).drop 1 = l1.take 19 from rfl] at e
      rw [e]
    have hXl : (((L.take 68).drop 1).take 19).length = 19 := by
      have := cut_len L 1 19 (by rw [List.length_take, HN.out]; omega)
      rwa [bs_length] at this
    refine (equal_any (w.heap.size + 1) 1 67 W1.heap.size 0 19 19 19 _ proto W2 hx2 hc2 hXl rfl).mono ?_
    rintro e W2' ⟨rfl, rfl⟩
    rw [hXn]
    clear hx2 hXn hXl hc2 hp2
    go_wp2_with fail
    refine (errNew_below _ W2').mono ?_
    rintro e W5 ⟨⟨p, rfl⟩, b5⟩
    have t5 : Touch (fun _ => False) W2' W5 := Touch.of_below b5
    have hq5 := t5.obj hq2 (by simp)
    have hr5 := t5.obj hr2 (by simp)
    have T5 : Hid (Touch (fun k => k = br) w W5) := T2.out.trans (t5.mono (by simp))
    have st : W5.there w.heap.size 0 (bs Z).toArray.size := by rw [E48.out]; exact there_of_block hq5 48 (by rw [E48.out]; omega)
    have t7 := touch_setCells w.heap.size (bs Z) 0 W5
    have hr7 := t7.obj hr5 (by omega)
    have hg7 : (W5.setCells w.heap.size 0 (bs Z)).rangeAt w.heap.size 0 (bs Z) := World.rangeAt_setCells_same W5 w.heap.size 0 _ (by rw [← List.size_toArray]; exact st)
    have lv := loadVar44 (R := Z) ZL.out hg7
    have FT : Hid (Touch (fun k => k = br) w (W5.setCells w.heap.size 0 (bs Z))) := by
      refine ⟨t7.os.trans T5.out.os, t7.tape.trans T5.out.tape, t7.output.trans T5.out.output, Nat.le_trans T5.out.size t7.size, fun k hk hne => ?_⟩
      rw [t7.block k (Nat.lt_of_lt_of_le hk T5.out.size) (by omega)]
      exact T5.out.block k hk hne
    have HR := hide hr7
    clear hr7 t7 hg7 t5 b5 hq5 hr5
    go_wp2_with (first | (refine wpList_store_mid (by rfl) 44 (.tmp 2) (.tmp 31) (by rfl) w.heap.size 0 (bs Z).toArray (by rfl) (by rfl) st SI.out (all_oneCell_toArray (bs_one _)) ?_))
    refine bodyPost_ret (v := .tuple #[.agg (bs Z).toArray, .iface 99 (.pointer p)]) ?_ rfl ⟨p, rfl, HR.out, FT.out⟩
    rw [results_cell_tmp Tryf.results30]
    show Result.andThen ((loadVar 44 ⟨w.heap.size, 0, none⟩).run Tryf.prog (W5.setCells w.heap.size 0 (bs Z))) _ = _
    rw [lv]
    rfl
  · have hb1 : ((b.toNat : Int) != 19) = true := by
      rw [bne_iff_ne]
      intro e
      exact hb (UInt8.toNat_inj.1 (by show b.toNat = 19; omega))
    go_wp2_with fail
    refine (errNew_below _ W1).mono ?_
    rintro e W5 ⟨⟨p, rfl⟩, b5⟩
    have t5 : Touch (fun _ => False) W1 W5 := Touch.of_below b5
    have hq5 := t5.obj hq1 (by simp)
    have hr5 := t5.obj hr1 (by simp)
    have T5 : Hid (Touch (fun k => k = br) w W5) := T1.out.trans (t5.mono (by simp))
    have st : W5.there w.heap.size 0 (bs Z).toArray.size := by rw [E48.out]; exact there_of_block hq5 48 (by rw [E48.out]; omega)
    have t7 := touch_setCells w.heap.size (bs Z) 0 W5
    have hr7 := t7.obj hr5 (by omega)
    have hg7 : (W5.setCells w.heap.size 0 (bs Z)).rangeAt w.heap.size 0 (bs Z) := World.rangeAt_setCells_same W5 w.heap.size 0 _ (by rw [← List.size_toArray]; exact st)
    have lv := loadVar44 (R := Z) ZL.out hg7
    have FT : Hid (Touch (fun k => k = br) w (W5.setCells w.heap.size 0 (bs Z))) := by
      refine ⟨t7.os.trans T5.out.os, t7.tape.trans T5.out.tape, t7.output.trans T5.out.output, Nat.le_trans T5.out.size t7.size, fun k hk hne => ?_⟩
      rw [t7.block k (Nat.lt_of_lt_of_le hk T5.out.size) (by omega)]
      exact T5.out.block k hk hne
    have HR := hide hr7
    clear hr7 t7 hg7 t5 b5 hq5 hr5
    go_wp2_with (first | (refine wpList_store_mid (by rfl) 44 (.tmp 2) (.tmp 31) (by rfl) w.heap.size 0 (bs Z).toArray (by rfl) (by rfl) st SI.out (all_oneCell_toArray (bs_one _)) ?_))
    refine bodyPost_ret (v := .tuple #[.agg (bs Z).toArray, .iface 99 (.pointer p)]) ?_ rfl ⟨p, rfl, HR.out, FT.out⟩
    rw [results_cell_tmp Tryf.results30]
    show Result.andThen ((loadVar 44 ⟨w.heap.size, 0, none⟩).run Tryf.prog (W5.setCells w.heap.size 0 (bs Z))) _ = _
    rw [lv]
    rfl

theorem readHandshake_bad (br g n c : Nat) (L : List UInt8) (w : World) (hr : w.heap[br]? = some (.cells (rdr g n c 0) 85 (0, 0))) (hL : BytesIn w g L) (hn : L.length = n) (h68 : 68 ≤ n) (n3 : br ≠ g) (hh : L.take 20 ≠ 19 :: proto) :
    Calls Tryf.prog 30 #[.iface 68 (.pointer (some ⟨br, 0, none⟩))] w fun e w' => ∃ p, e = .returned (.tuple #[.agg (bs (zs 48)).toArray, .iface 99 (.pointer p)]) ∧
      w'.heap[br]? = some (.cells (rdr g n c 68) 85 (0, 0)) ∧ Touch (fun k => k = br) w w' :=
  readHandshake_badZ (zs 48) rfl br g n c L w hr hL hn h68 n3 hh

end Go.Proofs.Qxb6615960aFmt
