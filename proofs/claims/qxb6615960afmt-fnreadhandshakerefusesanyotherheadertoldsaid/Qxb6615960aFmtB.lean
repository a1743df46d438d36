import Derived.Test.Qxb6615960aFmtA
import Derived.Laws.BytesArg
import Derived.Lib.SlBytesConst
namespace Go.Proofs.Qxb6615960aFmt
open Go.RowKit

set_option maxHeartbeats 1000000 in
theorem readFull_any (br g pb n c : Nat) (L : List UInt8) (cur : List Value) (t : TypeId) (w : World) (hr : w.heap[br]? = some (.cells (rdr g n c 0) 85 (0, 0))) (hL : BytesIn w g L) (hn : L.length = n) (h68 : 68 ≤ n)
    (hp : w.heap[pb]? = some (.cells cur.toArray t (0, 0))) (hcur : cur.length = 68) (n1 : pb ≠ br) (n3 : br ≠ g) :
    Calls Tryf.prog 36 #[.iface 68 (.pointer (some ⟨br, 0, none⟩)), .slice (some ⟨pb, 0, none⟩) 68 68] w fun e w' => e = .returned (.tuple #[.int .i64 68, .nilIface]) ∧
      w'.heap[pb]? = some (.cells (bs (L.take 68)).toArray t (0, 0)) ∧ w'.heap[br]? = some (.cells (rdr g n c 68) 85 (0, 0)) ∧ Touch (fun k => k = br ∨ k = pb) w w' := by
  go_enter Tryf.func36, Tryf.ntmps36
  go_wp2_with fail
  refine (readAtLeast_any br g pb n c L cur t _ hr hL hn h68 hp hcur n1 n3).mono ?_
  rintro e W1 ⟨rfl, g1, g2, t1⟩
  have G1 := hide g1
  have G2 := hide g2
  have T1 := hide t1
  clear g1 g2 t1
  go_wp2
  go_ret2
  exact ⟨rfl, G1.out, G2.out, T1.out⟩

theorem newReader_any (g n c : Nat) (w : World) :
    Calls Tryf.prog 29 #[.slice (some ⟨g, 0, none⟩) n c] w fun e w' => e = .returned (.pointer (some ⟨w.heap.size, 0, none⟩)) ∧ w' = w.alloc (.cells (rdr g n c 0) 85) := by
  go_enter Tryf.func29, Tryf.ntmps29
  go_wp2
  go_ret
  exact ⟨rfl, rfl⟩

set_option maxHeartbeats 1000000 in
theorem readerLen_any (br g n c : Nat) (w : World) (hr : w.heap[br]? = some (.cells (rdr g n c 68) 85 (0, 0))) (h68 : 68 ≤ n) (hn : n ≤ 9223372036854775807) :
    Calls Tryf.prog 31 #[.pointer (some ⟨br, 0, none⟩)] w fun e w' => e = .returned (.int .i64 ((n : Int) - 68)) ∧ ∃ m, w' = w.drewN m := by
  have r0 : w.cell? ⟨br, 0, none⟩ = some (.slice (some ⟨g, 0, none⟩) n c) := by rw [World.cell?, hr]; rfl
  have r1 : w.cell? ⟨br, 1, none⟩ = some (.int .i64 68) := by rw [World.cell?, hr]; rfl
  by_cases h : n = 68
  · have i1 : decide ((n : Int) ≤ 68) = true := decide_eq_true (by omega)
    have HH := hide h
    clear h
    go_enter Tryf.func31, Tryf.ntmps31
    go_wp2
    go_quiet (fail)
    go_wp2
    go_ret
    exact ⟨by rw [HH.out]; rfl, _, rfl⟩
  · have i1 : decide ((n : Int) ≤ 68) = false := decide_eq_false (by omega)
    go_enter Tryf.func31, Tryf.ntmps31
    go_wp2
    go_quiet (fail)
    go_wp2
    go_quiet (fail)
    go_wp2
    go_ret
    exact ⟨rfl, _, by simp; rfl⟩

theorem strOf_bs (X : List UInt8) : strOfNums (X.map fun b => (b.toNat : Int)) = ⟨X.toArray⟩ := by
  unfold strOfNums
  congr 2
  rw [List.map_map]
  refine (List.map_congr_left (g := id) ?_).trans (List.map_id X)
  intro b _
  simp

theorem conv_bs {w : World} {b off : Nat} {X : List UInt8} (hr : w.rangeAt b off (bs X)) (cap : Nat) : (convert 22 9 (.slice (some ⟨b, off, none⟩) X.length cap)).run Tryf.prog w = .ok (.string ⟨X.toArray⟩) w := by
  rw [← strOf_bs]
  refine run_convert_bytes_arg w 22 5 Tryf.underlying22 Tryf.underlying5 b off X.length cap _ (by simp) (fun i hi => ?_) 9 Tryf.underlying9
  refine hr i _ ?_
  rw [bs, List.getElem?_map, List.getElem?_eq_getElem hi]
  simp [List.getD_eq_getElem?_getD, hi]

theorem equal_any (b1 o1 c1 b2 o2 c2 n1 n2 : Nat) (X Y : List UInt8) (w : World) (h1 : w.rangeAt b1 o1 (bs X)) (h2 : w.rangeAt b2 o2 (bs Y)) (l1 : X.length = n1) (l2 : Y.length = n2) :
    Calls Tryf.prog 37 #[.slice (some ⟨b1, o1, none⟩) n1 c1, .slice (some ⟨b2, o2, none⟩) n2 c2] w fun e w' => e = .returned (.bool (X == Y)) ∧ w' = w := by
  subst l1
  subst l2
  have e1 := conv_bs h1 c1
  have e2 := conv_bs h2 c2
  go_enter Tryf.func37, Tryf.ntmps37
  go_wp2
  go_ret
  exact ⟨rfl, rfl⟩

theorem errNew_any (s : ByteArray) (w : World) :
    Calls Tryf.prog 33 #[.string s] w fun e w' => e = .returned (.iface 99 (.pointer (some ⟨w.heap.size, 0, none⟩))) ∧ w' = w.alloc (.cells #[.string s] 101) := by
  go_enter Tryf.func33, Tryf.ntmps33
  go_wp2
  go_ret
  exact ⟨rfl, rfl⟩

/-- n zero bytes. -/
def zs (n : Nat) : List UInt8 := List.replicate n 0
def zc (n : Nat) : Array Value := (bs (zs n)).toArray
theorem zero88 (w : World) : (zeroValue 88).run Tryf.prog w = .ok (.agg (zc 68)) w := by kernel_rfl
theorem zero44 (w : World) : (zeroValue 44).run Tryf.prog w = .ok (.agg (zc 48)) w := by kernel_rfl

theorem zc_eq (n : Nat) : zc n = (bs (zs n)).toArray := rfl
theorem range_of_block {w : World} {b : Nat} {X : List UInt8} {t : TypeId} {fr : Nat × Nat} (h : w.heap[b]? = some (.cells (bs X).toArray t fr)) (o k : Nat) : w.rangeAt b o (bs ((X.drop o).take k)) := by
  intro j v hj
  have hlt : j < k := by have := (List.getElem?_eq_some_iff.1 hj).1; rw [bs_length, List.length_take] at this; omega
  rw [bs, List.map_take, List.getElem?_take_of_lt hlt, List.map_drop, List.getElem?_drop] at hj
  rw [World.cell?, h]
  simpa [bs] using hj

theorem src_of_range {w : World} {b o : Nat} {cs : List Value} (h : w.rangeAt b o cs) : ∀ j v, cs[j]? = some v → w.cell? ((⟨b, o, none⟩ : Addr).add j) = some v := fun j v hj => by
  rw [Addr.add_mid]; exact h j v hj
theorem touch_drew (S : Nat → Prop) (w : World) : Touch S w w.drew := ⟨rfl, rfl, rfl, Nat.le_refl _, fun _ _ _ => rfl⟩
theorem cut_len (L : List UInt8) (o k : Nat) (h : o + k ≤ (L.take 68).length) : (bs (((L.take 68).drop o).take k)).length = k := by
  rw [bs_length, List.length_take, List.length_drop]; omega

theorem touch_setCells (g : Nat) : ∀ (vs : List Value) (o : Nat) (w : World), Touch (fun k => k = g) w (w.setCells g o vs)
  | [], _, w => Touch.refl _ w
  | v :: r, o, w => (Touch.setCell (S := fun k => k = g) w ⟨g, o, none⟩ v rfl).trans (touch_setCells g r (o + 1) _)
theorem there_of_block {w : World} {b : Nat} {cs : Array Value} {t : TypeId} (h : w.heap[b]? = some (.cells cs t (0, 0))) (n : Nat) (hn : n ≤ cs.size) : w.there b 0 n := by
  intro j hj
  rw [World.cell?, World.frozen?, h]
  refine ⟨?_, ?_⟩
  · simp; omega
  · simp
theorem Tryf.size44 : (Tryf.prog.info? 44).map (·.size) = some 48 := by kernel_rfl
theorem load44 {w : World} {b : Nat} {R : List UInt8} (hl : R.length = 48) (h : w.rangeAt b 0 (bs R)) : (Instr.loadAt 44 (.pointer (some ⟨b, 0, none⟩))).run Tryf.prog w = .ok (.agg (bs R).toArray) w :=
  run_loadAt_mid w b 0 44 (bs R) _ h Tryf.underlying44 rfl (by rw [bs_length, hl]; exact Tryf.size44)
theorem loadVar44 {w : World} {b : Nat} {R : List UInt8} (hl : R.length = 48) (h : w.rangeAt b 0 (bs R)) : (loadVar 44 ⟨b, 0, none⟩).run Tryf.prog w = .ok (.agg (bs R).toArray) w :=
  run_loadVar_mid w b 0 44 (bs R) _ h Tryf.underlying44 rfl (by rw [bs_length, hl]; exact Tryf.size44)
theorem store44 {w : World} {b : Nat} {R : List UInt8} (hl : R.length = 48) (h : w.there b 0 48) : (Instr.storeAt 44 (.pointer (some ⟨b, 0, none⟩)) (.agg (bs R).toArray)).run Tryf.prog w = .ok () (w.setCells b 0 (bs R)) :=
  run_storeAt_mid w b 0 44 (bs R).toArray (by simpa [bs_length, hl] using h) (by simpa [bs_length, hl] using Tryf.size44) (all_oneCell_toArray (bs_one R))

/-- The protocol's name. -/
def proto : List UInt8 := [66, 105, 116, 84, 111, 114, 114, 101, 110, 116, 32, 112, 114, 111, 116, 111, 99, 111, 108]

theorem proto_cells : (#[.int .u8 66, .int .u8 105, .int .u8 116, .int .u8 84, .int .u8 111, .int .u8 114, .int .u8 114, .int .u8 101, .int .u8 110, .int .u8 116, .int .u8 32, .int .u8 112, .int .u8 114, .int .u8 111, .int .u8 116, .int .u8 111, .int .u8 99, .int .u8 111, .int .u8 108] : Array Value) = (bs proto).toArray := rfl

set_option maxHeartbeats 2000000 in
set_option maxRecDepth 100000 in
theorem readHandshake_ok (br g n c : Nat) (L : List UInt8) (w : World) (hr : w.heap[br]? = some (.cells (rdr g n c 0) 85 (0, 0))) (hL : BytesIn w g L) (hn : L.length = n) (h68 : 68 ≤ n) (n3 : br ≠ g) (hh : L.take 20 = 19 :: proto) :
    Calls Tryf.prog 30 #[.iface 68 (.pointer (some ⟨br, 0, none⟩))] w fun e w' => e = .returned (.tuple #[.agg (bs ((L.drop 20).take 48)).toArray, .nilIface]) ∧
      w'.heap[br]? = some (.cells (rdr g n c 68) 85 (0, 0)) ∧ Touch (fun k => k = br) w w' := by
  have z1 := zero88
  have z2 := zero44
  have HN := hide hn
  have HH := hide hh
  have b0 := block_lt hr
  have t0 : Touch (fun _ => False) w ((w.alloc (.cells (zc 48) 44)).alloc (.cells (zc 68) 88)) := Touch.of_below (((Below.refl _ _).alloc (by simp) _).alloc (by simp) _)
  have hr0 := t0.obj hr (by simp)
  have hL0 := hL.keep t0 (by simp)
  have hp0 : ((w.alloc (.cells (zc 48) 44)).alloc (.cells (zc 68) 88)).heap[w.heap.size + 1]? = some (.cells (bs (zs 68)).toArray 88 (0, 0)) := by
    have := heap_alloc_new (w.alloc (.cells (zc 48) 44)) (.cells (zc 68) 88)
    simpa [zc_eq] using this
  have hq0 : ((w.alloc (.cells (zc 48) 44)).alloc (.cells (zc 68) 88)).heap[w.heap.size]? = some (.cells (bs (zs 48)).toArray 44 (0, 0)) := by
    rw [Below.heap_alloc _ _ _ (by simp)]; exact heap_alloc_new w _
  have hz0 : w.heap.size + 1 < ((w.alloc (.cells (zc 48) 44)).alloc (.cells (zc 68) 88)).heap.size := by simp
  have T0 := hide t0
  clear hn hh t0 hr hL
  go_enter Tryf.func30, Tryf.ntmps30
  go_wp2_with fail
  refine (readFull_any br g (w.heap.size + 1) n c L (bs (zs 68)) 88 _ hr0 hL0 HN.out h68 hp0 (by rw [bs_length]; rfl) (by omega) n3).mono ?_
  rintro e W1 ⟨rfl, hp1, hr1, t1⟩
  have hq1 := t1.obj hq0 (by omega)
  have hz1 := Nat.lt_of_lt_of_le hz0 t1.size
  have T1 : Hid (Touch (fun k => k = br) w W1) := ⟨t1.os.trans T0.out.os, t1.tape.trans T0.out.tape, t1.output.trans T0.out.output, Nat.le_trans T0.out.size t1.size, fun k hk hne => (t1.block k (Nat.lt_of_lt_of_le hk T0.out.size) (by omega)).trans (T0.out.block k hk (by simp))⟩
  clear t1 hp0 hq0 hr0 hL0 T0 hz0
  have c0 : W1.cell? ⟨w.heap.size + 1, 0, none⟩ = some (.int .u8 19) := by
    refine range_of_block hp1 0 68 0 _ ?_
    rw [List.drop_zero, List.take_take, bs, List.getElem?_map]
    have e : (L.take 68)[0]? = (L.take 20)[0]? := by rw [List.getElem?_take_of_lt (by omega), List.getElem?_take_of_lt (by omega)]
    rw [show min 68 68 = 68 from rfl, e, HH.out]
    rfl
  have cv := Lib.run_convert_bytes_const (P := Tryf.prog) W1 22 5 #[.int .u8 66, .int .u8 105, .int .u8 116, .int .u8 84, .int .u8 111, .int .u8 114, .int .u8 114, .int .u8 101, .int .u8 110, .int .u8 116, .int .u8 32, .int .u8 112, .int .u8 114, .int .u8 111, .int .u8 116, .int .u8 111, .int .u8 99, .int .u8 111, .int .u8 108] 19 19 Tryf.underlying22 Tryf.underlying5
  have t2 : Touch (fun _ => False) W1 (W1.alloc (.cells #[.int .u8 66, .int .u8 105, .int .u8 116, .int .u8 84, .int .u8 111, .int .u8 114, .int .u8 114, .int .u8 101, .int .u8 110, .int .u8 116, .int .u8 32, .int .u8 112, .int .u8 114, .int .u8 111, .int .u8 116, .int .u8 111, .int .u8 99, .int .u8 111, .int .u8 108] 5 (19, 20))) := Touch.of_below ((Below.refl _ _).alloc (Nat.le_refl _) _)
  have hp2 := t2.obj hp1 (by simp)
  have hq2 := t2.obj hq1 (by simp)
  have hr2 := t2.obj hr1 (by simp)
  have hc2 : (W1.alloc (.cells #[.int .u8 66, .int .u8 105, .int .u8 116, .int .u8 84, .int .u8 111, .int .u8 114, .int .u8 114, .int .u8 101, .int .u8 110, .int .u8 116, .int .u8 32, .int .u8 112, .int .u8 114, .int .u8 111, .int .u8 116, .int .u8 111, .int .u8 99, .int .u8 111, .int .u8 108] 5 (19, 20))).rangeAt W1.heap.size 0 (bs proto) := range_of_block (X := proto) (heap_alloc_new W1 (.cells #[.int .u8 66, .int .u8 105, .int .u8 116, .int .u8 84, .int .u8 111, .int .u8 114, .int .u8 114, .int .u8 101, .int .u8 110, .int .u8 116, .int .u8 32, .int .u8 112, .int .u8 114, .int .u8 111, .int .u8 116, .int .u8 111, .int .u8 99, .int .u8 111, .int .u8 108] 5 (19, 20))) 0 19
  have hz2 := Nat.lt_of_lt_of_le hz1 t2.size
  have T2 : Hid (Touch (fun k => k = br) w (W1.alloc (.cells #[.int .u8 66, .int .u8 105, .int .u8 116, .int .u8 84, .int .u8 111, .int .u8 114, .int .u8 114, .int .u8 101, .int .u8 110, .int .u8 116, .int .u8 32, .int .u8 112, .int .u8 114, .int .u8 111, .int .u8 116, .int .u8 111, .int .u8 99, .int .u8 111, .int .u8 108] 5 (19, 20)))) := T1.out.trans (t2.mono (by simp))
  clear t2 hp1 hq1 hr1 hz1 T1
  go_wp2_with fail
  clear cv c0
  generalize W1.alloc (.cells #[.int .u8 66, .int .u8 105, .int .u8 116, .int .u8 84, .int .u8 111, .int .u8 114, .int .u8 114, .int .u8 101, .int .u8 110, .int .u8 116, .int .u8 32, .int .u8 112, .int .u8 114, .int .u8 111, .int .u8 116, .int .u8 111, .int .u8 99, .int .u8 111, .int .u8 108] 5 (19, 20)) = W2 at *
  have hX : (((L.take 68).drop 1).take 19) = proto := by
    have e : ((L.take 68).drop 1).take 19 = (L.take 20).drop 1 := by
      rw [List.drop_take, List.drop_take, List.take_take]; rfl
    rw [e, HH.out]; rfl
  have hx2 := range_of_block hp2 1 19
  rw [hX] at hx2
  refine (equal_any (w.heap.size + 1) 1 67 W1.heap.size 0 19 19 19 proto proto W2 hx2 hc2 rfl rfl).mono ?_
  rintro e W2' ⟨rfl, rfl⟩
  rw [beq_self_eq_true]
  have t3 : Touch (fun _ => False) W2' (W2'.alloc (.cells (zc 48) 44)) := Touch.of_below ((Below.refl _ _).alloc (Nat.le_refl _) _)
  have hp3 := t3.obj hp2 (by simp)
  have hq3 := t3.obj hq2 (by simp)
  have hr3 := t3.obj hr2 (by simp)
  have hn3 : (W2'.alloc (.cells (zc 48) 44)).heap[W2'.heap.size]? = some (.cells (bs (zs 48)).toArray 44 (0, 0)) := heap_alloc_new W2' _
  have T3 : Hid (Touch (fun k => k = br) w (W2'.alloc (.cells (zc 48) 44))) := T2.out.trans (t3.mono (by simp))
  clear t3 hp2 hq2 hr2 hx2 hc2 hX T2
  go_wp2
  generalize W2'.alloc (.cells (zc 48) 44) = W3 at *
  generalize W2'.heap.size = N3 at *
  have hl : (L.take 68).length = 68 := by rw [List.length_take, HN.out]; omega
  have HL := hide hl
  have l1 := cut_len L 20 8 (by omega)
  have l2 := cut_len L 28 20 (by omega)
  have l3 := cut_len L 48 20 (by omega)
  have lz : (bs (zs 48)).length = 48 := rfl
  have L1 := hide l1
  have L2 := hide l2
  have L3 := hide l3
  have LZ := hide lz
  have m1 : 0 + (bs (((L.take 68).drop 20).take 8)).length ≤ (bs (zs 48)).length := by omega
  have m2 : 8 + (bs (((L.take 68).drop 28).take 20)).length ≤ (splice (bs (zs 48)) 0 (bs (((L.take 68).drop 20).take 8))).length := by rw [length_splice _ _ _ m1]; omega
  have m3 : 28 + (bs (((L.take 68).drop 48).take 20)).length ≤ (splice (splice (bs (zs 48)) 0 (bs (((L.take 68).drop 20).take 8))) 8 (bs (((L.take 68).drop 28).take 20))).length := by rw [length_splice _ _ _ m2, length_splice _ _ _ m1]; omega
  have M1 := hide m1
  have M2 := hide m2
  have M3 := hide m3
  clear hl l1 l2 l3 lz m1 m2 m3
  have x1 := range_of_block (w := W3.drew) hp3 20 8
  go_region_held3 (fun _ => True) (trivial)
    ((refine step_copy_touch (by rfl) (.tmp 35) (.tmp 37) 22 22 (by rfl) 5 Tryf.underlying22 Tryf.size5 N3 0 8 8 ⟨w.heap.size + 1, 20, none⟩ 8 48 (by rfl) (by rfl) _ 44 (by exact hn3) _ 8 L1.out rfl (src_of_range x1) M1.out (bs_one _) ?_; intro W4 hn4 t4))
  replace t4 := (touch_drew _ W3).trans t4
  have hp4 := t4.obj hp3 (by omega)
  have hq4 := t4.obj hq3 (by omega)
  have hr4 := t4.obj hr3 (by omega)
  have x2 := range_of_block (w := W4.drew) hp4 28 20
  go_wp2
  go_region_held3 (fun _ => True) (trivial)
    ((refine step_copy_touch (by rfl) (.tmp 40) (.tmp 42) 22 22 (by rfl) 5 Tryf.underlying22 Tryf.size5 N3 8 20 20 ⟨w.heap.size + 1, 28, none⟩ 20 40 (by rfl) (by rfl) _ 44 (by exact hn4) _ 20 L2.out rfl (src_of_range x2) M2.out (bs_one _) ?_; intro W5 hn5 t5))
  replace t5 := (touch_drew _ W4).trans t5
  have hp5 := t5.obj hp4 (by omega)
  have hq5 := t5.obj hq4 (by omega)
  have hr5 := t5.obj hr4 (by omega)
  have x3 := range_of_block (w := W5.drew) hp5 48 20
  go_wp2
  go_region_held3 (fun _ => True) (trivial)
    ((refine step_copy_touch (by rfl) (.tmp 45) (.tmp 47) 22 22 (by rfl) 5 Tryf.underlying22 Tryf.size5 N3 28 20 20 ⟨w.heap.size + 1, 48, none⟩ 20 20 (by rfl) (by rfl) _ 44 (by exact hn5) _ 20 L3.out rfl (src_of_range x3) M3.out (bs_one _) ?_; intro W6 hn6 t6))
  replace t6 := (touch_drew _ W5).trans t6
  have hq6 := t6.obj hq5 (by omega)
  have hr6 := t6.obj hr5 (by omega)
  rw [splice_splice_splice _ _ _ _ 8 20 L1.out L2.out (by rw [L3.out, LZ.out])] at hn6
  have hR : bs (((L.take 68).drop 20).take 8) ++ (bs (((L.take 68).drop 28).take 20) ++ bs (((L.take 68).drop 48).take 20)) = bs ((L.drop 20).take 48) := by
    rw [bs, bs, bs, ← List.map_append, ← List.map_append, bs]
    congr 1
    have e : (L.drop 20).take 48 = (L.take 68).drop 20 := by rw [List.drop_take]
    rw [e]
    have e1 : ((L.take 68).drop 20).take 48 = (L.take 68).drop 20 := List.take_of_length_le (by rw [List.length_drop, HL.out]; omega)
    generalize hM : (L.take 68).drop 20 = M at *
    have e2 : (L.take 68).drop 28 = M.drop 8 := by rw [← hM, List.drop_drop]
    have e3 : (L.take 68).drop 48 = M.drop 28 := by rw [← hM, List.drop_drop]
    have e4 : (M.drop 28).take 20 = M.drop 28 := List.take_of_length_le (by rw [← hM, List.length_drop, List.length_drop, HL.out]; omega)
    have e5 : M.drop 28 = (M.drop 8).drop 20 := by rw [List.drop_drop]
    rw [e2, e3, e4, e5, List.take_append_drop, List.take_append_drop]
  rw [hR] at hn6
  have hRl : ((L.drop 20).take 48).length = 48 := by rw [List.length_take, List.length_drop, HN.out]; omega
  have ld : W6.rangeAt N3 0 (bs ((L.drop 20).take 48)) := by have := range_of_block hn6 0 48; rwa [List.drop_zero, List.take_take] at this
  have e48 : (bs ((L.drop 20).take 48)).toArray.size = 48 := by rw [List.size_toArray, bs_length, hRl]
  have st : W6.there w.heap.size 0 (bs ((L.drop 20).take 48)).toArray.size := by rw [e48]; exact there_of_block hq6 48 (by rw [List.size_toArray, LZ.out]; omega)
  have si : (Tryf.prog.info? 44).map (·.size) = some (bs ((L.drop 20).take 48)).length := by rw [bs_length, hRl]; exact Tryf.size44
  have si' : (Tryf.prog.info? 44).map (·.size) = some (bs ((L.drop 20).take 48)).toArray.size := by rw [List.size_toArray]; exact si
  have SI := hide si
  have SI' := hide si'
  have t7 := touch_setCells w.heap.size (bs ((L.drop 20).take 48)) 0 W6
  have hr7 := t7.obj hr6 (by omega)
  have hg7 : (W6.setCells w.heap.size 0 (bs ((L.drop 20).take 48))).rangeAt w.heap.size 0 (bs ((L.drop 20).take 48)) :=
    World.rangeAt_setCells_same W6 w.heap.size 0 _ (by rw [bs_length, hRl]; exact there_of_block hq6 48 (by rw [List.size_toArray, LZ.out]; omega))
  have lv := loadVar44 hRl hg7
  have FT : Hid (Touch (fun k => k = br) w (W6.setCells w.heap.size 0 (bs ((L.drop 20).take 48)))) := by
    have q := ((t4.trans t5).trans t6)
    have hz := T3.out.size
    refine ⟨t7.os.trans (q.os.trans T3.out.os), t7.tape.trans (q.tape.trans T3.out.tape), t7.output.trans (q.output.trans T3.out.output), Nat.le_trans hz (Nat.le_trans q.size t7.size), fun k hk hne => ?_⟩
    have hk3 : k < W3.heap.size := by omega
    have hk6 : k < W6.heap.size := Nat.lt_of_lt_of_le hk3 q.size
    rw [t7.block k hk6 (by omega), q.block k hk3 (by omega)]
    exact T3.out.block k hk hne
  have HR := hide hr7
  clear si si' e48 hr7 t7 hg7 t4 t5 t6 hn6 hn5 hn4 hn3 x1 x2 x3 hR hRl hq6 hr6
  go_wp2_with (first
    | (refine wpList_load_mid (by rfl) 44 (.tmp 7) (by rfl) N3 0 (by rfl) (bs ((L.drop 20).take 48)) _ ld Tryf.underlying44 rfl SI.out ?_)
    | (refine wpList_store_mid (by rfl) 44 (.tmp 2) (.tmp 49) (by rfl) w.heap.size 0 (bs ((L.drop 20).take 48)).toArray (by rfl) (by rfl) st SI'.out (all_oneCell_toArray (bs_one _)) ?_))
  refine bodyPost_ret (v := .tuple #[.agg (bs ((L.drop 20).take 48)).toArray, .nilIface]) ?_ rfl ⟨rfl, HR.out, FT.out⟩
  rw [results_cell_tmp Tryf.results30]
  show Result.andThen ((loadVar 44 ⟨w.heap.size, 0, none⟩).run Tryf.prog (W6.setCells w.heap.size 0 (bs ((L.drop 20).take 48)))) _ = _
  rw [lv]
  rfl

end Go.Proofs.Qxb6615960aFmt
