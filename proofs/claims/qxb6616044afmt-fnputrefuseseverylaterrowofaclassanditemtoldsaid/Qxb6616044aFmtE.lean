import Derived.Test.Qxb6616044aFmtD
import Derived.Deep.MidRow
import Derived.Laws.ResultCell
import Derived.OwnWalk
namespace Go.Proofs.Qxb6616044aFmt
open Go.RowKit Go.Extern.Stop Go.Stop Go.Extern
set_option linter.unusedSimpArgs false

def sClass : ByteArray := ⟨#[99, 108, 97, 115, 115]⟩
def sItem : ByteArray := ⟨#[105, 116, 101, 109]⟩
def sValue : ByteArray := ⟨#[118, 97, 108, 117, 101]⟩
/-- The entry that a row makes. -/
def entOf (f : ByteArray → Option Int) (ss : List ByteArray) (l : Int) : Ent := ⟨colGet f ss sClass, colGet f ss sItem, l, colGet f ss sValue⟩
def rowFits (f : ByteArray → Option Int) (ss : List ByteArray) : Bool := fits f ss sClass && fits f ss sItem && fits f ss sValue

theorem zput_new {H : Type} (w0 : World) (r : Nat) (fund : ByteArray) (G : List Ent) (l : Int) (m : Option Nat) (f : ByteArray → Option Int) (a : Option Addr) (n : Nat) (ss : List ByteArray) (w : World) (hw0 : Below w0.heap.size w0 w) (hR : Res w0.heap.size w r fund G) (hcl : Cols H w0 m f) (hss : Strs w0 a ss)
    (hf : rowFits f ss = true) (hz : ∀ s ∈ ss, s.size ≤ 140737488355328) (hfz : fund.size ≤ 140737488355328) (hn : G.length < 1000000) (hfind : findE G (colGet f ss sClass) (colGet f ss sItem) = none) :
    Calls Tryf.prog 9 #[.pointer (some ⟨r, 0, none⟩), .int .i64 l, .slice a ss.length n, .map m] w fun e w' => e = .returned .nilIface ∧ Res w0.heap.size w' r fund (G ++ [entOf f ss l]) ∧ Below w0.heap.size w0 w' := by
  simp only [rowFits, Bool.and_eq_true] at hf
  go_enter Tryf.func9, Tryf.ntmps9
  go_wp2_with fail
  refine (put_new (H := H) w0 r fund G l m f a n ss w hw0 hR hcl hss hf.1.1 hf.1.2 hf.2 hz hfz hn hfind).mono ?_
  rintro e w' ⟨rfl, h1, h2⟩
  go_wp2
  go_ret
  exact ⟨rfl, h1, h2⟩

theorem zput_old {H : Type} (F : Interp) (w0 : World) (r : Nat) (fund : ByteArray) (G : List Ent) (l : Int) (m : Option Nat) (f : ByteArray → Option Int) (a : Option Addr) (n : Nat) (ss : List ByteArray) (w : World) (hw0 : Below w0.heap.size w0 w) (hR : Res w0.heap.size w r fund G) (hcl : Cols H w0 m f) (hss : Strs w0 a ss)
    (hf : rowFits f ss = true) (hz : ∀ s ∈ ss, s.size ≤ 140737488355328) (hfz : fund.size ≤ 140737488355328) (x : Ent) (hF : F.answers w0.tape) (hfind : findE G (colGet f ss sClass) (colGet f ss sItem) = some x) :
    Calls Tryf.prog 9 #[.pointer (some ⟨r, 0, none⟩), .int .i64 l, .slice a ss.length n, .map m] w fun e w' => ErrRet e ∧ Res w0.heap.size w' r fund G ∧ Below w0.heap.size w0 w' := by
  simp only [rowFits, Bool.and_eq_true] at hf
  go_enter Tryf.func9, Tryf.ntmps9
  go_wp2_with fail
  refine (put_old (H := H) F w0 r fund G l m f a n ss w hw0 hR hcl hss hf.1.1 hf.1.2 hz hfz x (by rw [hw0.tape]; exact hF) hfind).mono ?_
  rintro e w' ⟨⟨q, rfl⟩, h1, h2⟩
  go_wp2
  go_ret
  exact ⟨⟨q, rfl⟩, h1, h2⟩

theorem newResult_any (w0 : World) (fund : ByteArray) (w : World) (hw0 : Below w0.heap.size w0 w) :
    Calls Tryf.prog 8 #[.string fund] w fun e w' => ∃ r, e = .returned (.pointer (some ⟨r, 0, none⟩)) ∧ Res w0.heap.size w' r fund [] ∧ Below w0.heap.size w0 w' := by
  have hmm := @run_makeMap Tryf.prog
  have hs := hw0.size
  go_enter Tryf.func8, Tryf.ntmps8
  go_wp2
  go_ret
  have hv : Held (w.alloc (.map #[] 0)) w.heap.size valR [] := Held.made w valR
  have hl : Held ((w.alloc (.map #[] 0)).alloc (.map #[] 0)) (w.alloc (.map #[] 0)).heap.size lineR [] := Held.made (w.alloc (.map #[] 0)) lineR
  rw [alloc_size] at hl
  refine ⟨_, rfl, ⟨w.heap.size + 1 + 1, w.heap.size, w.heap.size + 1, .slice none 0 0, .int .u64 0, .int .i64 0, .pointer none, .int .i64 0, ⟨by omega, by omega, by omega, by omega, by omega⟩, ?_, ?_, hv.block ?_, hl.block ?_, World.ownsRow_nil _ _ _ _⟩, ?_⟩
  · simp only [get_alloc, alloc_size]
    rw [if_pos trivial]
  · simp only [get_alloc, alloc_size]
    rw [if_neg (by omega), if_pos trivial]
  · simp only [get_alloc, alloc_size]
    rw [if_neg (by omega), if_neg (by omega), if_neg (by omega)]
  · simp only [get_alloc, alloc_size]
    rw [if_neg (by omega), if_neg (by omega)]
  · exact (((hw0.alloc hs _).alloc (by simp; omega) _).alloc (by simp; omega) _).alloc (by simp; omega) _

theorem orderLen_any (B r : Nat) (fund : ByteArray) (G : List Ent) (w : World) (hR : Res B w r fund G) :
    Calls Tryf.prog 10 #[.pointer (some ⟨r, 0, none⟩)] w fun e w' => e = .returned (.int .i64 (G.length : Nat)) ∧ w' = w := by
  obtain ⟨lb, mv, mf, O, d1, d2, d3, d4, hB, hr, hlb, hv, hl, ho⟩ := hR
  have k := cell_block (j := 7) hr rfl
  go_enter Tryf.func10, Tryf.ntmps10
  rcases ho.2 with ⟨rfl, hz⟩ | ⟨g, cap, cur, rfl, _⟩
  · go_wp2
    go_ret
    exact ⟨by rw [hz]; rfl, rfl⟩
  · go_wp2
    go_ret
    exact ⟨rfl, rfl⟩

theorem keysOf_at (G : List Ent) (k : Nat) (x : Ent) (h : G[k]? = some x) : (keysOf G)[k * 2]? = some (.string x.c) ∧ (keysOf G)[k * 2 + 1]? = some (.string x.i) := by
  induction G generalizing k with
  | nil => simp at h
  | cons e G ih =>
    cases k with
    | zero =>
      simp at h
      subst h
      exact ⟨rfl, rfl⟩
    | succ k =>
      obtain ⟨h1, h2⟩ := ih k (by simpa using h)
      have e2 : keysOf (e :: G) = .string e.c :: .string e.i :: keysOf G := rfl
      rw [e2, show (k + 1) * 2 = k * 2 + 1 + 1 from by omega]
      exact ⟨by simpa using h1, by simpa using h2⟩

set_option maxHeartbeats 1000000 in
theorem orderAt_any (B r : Nat) (fund : ByteArray) (G : List Ent) (w : World) (hR : Res B w r fund G) (k : Nat) (x : Ent) (hk : G[k]? = some x) :
    Calls Tryf.prog 11 #[.pointer (some ⟨r, 0, none⟩), .int .i64 k] w fun e w' => e = .returned (.tuple #[.string x.c, .string x.i]) ∧ Below w.heap.size w w' := by
  obtain ⟨lb, mv, mf, O, d1, d2, d3, d4, hB, hr, hlb, hv, hl, ho⟩ := hR
  have k7 := cell_block (j := 7) hr rfl
  have hlt : k < G.length := (List.getElem?_eq_some_iff.1 hk).1
  obtain ⟨h1, h2⟩ := keysOf_at G k x hk
  rcases ho.2 with ⟨_, hz⟩ | ⟨g, cap, cur, rfl, r1, r2, r3, r4, r5, r6⟩
  · omega
  have c1 := ho.cells (g := g) rfl _ _ h1
  have c2 := ho.cells (g := g) rfl _ _ h2
  rw [Addr.add_mid, Nat.zero_add] at c1 c2
  have hk0 : (0 : Int) ≤ k := by omega
  have hk1 : (k : Int) < G.length := by omega
  clear ho hv hl hlb r2 r6 h1 h2
  go_enter Tryf.func11, Tryf.ntmps11
  go_wp2_with fail
  go_quiet (fail)
  go_wp2
  go_ret2
  exact ⟨rfl, ⟨rfl, rfl, rfl, Nat.le_refl _, fun _ _ => rfl⟩⟩

set_option maxHeartbeats 1000000 in
theorem line_any (lb mf : Nat) (c i : ByteArray) (G : List Ent) (x : Ent) (w : World) (hlb : w.heap[lb]? = some (.cells #[.int .i64 0, .string ⟨#[]⟩, .map (some mf)] 49 (0, 0))) (hH : Held w mf lineR G) (hc : c.size ≤ maxLen) (hi : i.size ≤ maxLen) (hf : findE G c i = some x) :
    Calls Tryf.prog 19 #[.pointer (some ⟨lb, 0, none⟩), .agg #[.string c, .string i]] w fun e w' => e = .returned (.int .i64 x.l) ∧ Below w.heap.size w w' := by
  have b1 : Below w.heap.size w (w.alloc (.cells #[.string c, .string i] 61)) := (Below.refl _ _).alloc (Nat.le_refl _) _
  have t1 := Touch.of_below (S := fun _ => False) b1
  have hb1 : (w.alloc (.cells #[.string c, .string i] 61)).heap[w.heap.size]? = some (.cells #[.string c, .string i] 61 (0, 0)) := heap_alloc_new w _
  have hl1 := t1.obj hlb (by simp)
  have hH1 := hH.keep t1 (by simp)
  go_enter Tryf.func19, Tryf.ntmps19
  go_wp2_with fail
  generalize w.alloc (.cells #[.string c, .string i] 61) = W1 at *
  have k0 := cell_block (j := 0) hb1 rfl
  have k1 := cell_block (j := 1) hb1 rfl
  have k2 := cell_block (j := 2) hl1 rfl
  have hlook : (Instr.lookup 45 (.map (some mf)) (.agg #[.string c, .string i]) false).run Tryf.prog W1.drew = .ok (.agg #[.int .i64 0, .string ⟨#[]⟩, .int .i64 x.l]) W1.drew := by
    have := (hH1.block (w' := W1.drew) rfl).colGet Tryf.underlying45 (zero72 _) hc hi
    rw [hf] at this
    exact this
  have hfld : ∀ w', (Instr.field 72 (.agg #[.int .i64 0, .string ⟨#[]⟩, .int .i64 x.l]) 1).run Tryf.prog w' = .ok (.int .i64 x.l) w' := fun w' => by kernel_rfl
  go_region_held3 (fun w' => w'.cell? ⟨w.heap.size, 0, none⟩ = some (.string c) ∧ w'.cell? ⟨w.heap.size, 1, none⟩ = some (.string i) ∧ w'.cell? ⟨lb, 2, none⟩ = some (.map (some mf))) (first | go_keep | assumption) (fail)
  go_wp2
  go_ret
  exact ⟨rfl, b1.drew⟩

theorem zero63 (w : World) : (zeroValue 63).run Tryf.prog w = .ok (.agg #[.int .i64 0, .string ⟨#[]⟩]) w := by kernel_rfl

set_option maxHeartbeats 1000000 in
theorem item_some (B r : Nat) (fund : ByteArray) (G : List Ent) (c i : ByteArray) (x : Ent) (w : World) (hR : Res B w r fund G) (hc : c.size ≤ maxLen) (hi : i.size ≤ maxLen) (hf : findE G c i = some x) :
    Calls Tryf.prog 15 #[.pointer (some ⟨r, 0, none⟩), .agg #[.string c, .string i]] w fun e w' => e = .returned (.tuple #[.agg #[.int .i64 x.l, .string x.v], .bool true]) ∧ Below w.heap.size w w' := by
  obtain ⟨lb, mv, mf, O, d1, d2, d3, d4, hB, hr, hlb, hv, hl, ho⟩ := hR
  have b1 : Below w.heap.size w ((w.alloc (.cells #[.string c, .string i] 61)).alloc (.cells #[.int .i64 0, .string ⟨#[]⟩] 63)) := ((Below.refl _ _).alloc (Nat.le_refl _) _).alloc (by simp) _
  have t1 := Touch.of_below (S := fun _ => False) b1
  have hb1 : ((w.alloc (.cells #[.string c, .string i] 61)).alloc (.cells #[.int .i64 0, .string ⟨#[]⟩] 63)).heap[w.heap.size]? = some (.cells #[.string c, .string i] 61 (0, 0)) := by
    simp only [get_alloc, alloc_size]
    rw [if_neg (by omega), if_pos trivial]
  have hn1 : ((w.alloc (.cells #[.string c, .string i] 61)).alloc (.cells #[.int .i64 0, .string ⟨#[]⟩] 63)).heap[w.heap.size + 1]? = some (.cells #[.int .i64 0, .string ⟨#[]⟩] 63 (0, 0)) := by
    simp only [get_alloc, alloc_size]
    rw [if_pos trivial]
  have hr1 := t1.obj hr (by simp)
  have hlb1 := t1.obj hlb (by simp)
  have hv1 := hv.keep t1 (by simp)
  have hl1 := hl.keep t1 (by simp)
  go_enter Tryf.func15, Tryf.ntmps15
  go_wp2_with fail
  generalize ((w.alloc (.cells #[.string c, .string i] 61)).alloc (.cells #[.int .i64 0, .string ⟨#[]⟩] 63)) = W1 at *
  have k0 := cell_block (j := 0) hb1 rfl
  have k1 := cell_block (j := 1) hb1 rfl
  have k2 := cell_block (j := 5) hr1 rfl
  have hlook : (Instr.lookup 43 (.map (some mv)) (.agg #[.string c, .string i]) true).run Tryf.prog W1.drew = .ok (.tuple #[.string x.v, .bool true]) W1.drew := by
    have := (hv1.block (w' := W1.drew) rfl).look Tryf.underlying43 (zero9 _) hc hi
    rw [hf] at this
    exact this
  go_region_held3 (fun w' => w'.cell? ⟨w.heap.size, 0, none⟩ = some (.string c) ∧ w'.cell? ⟨w.heap.size, 1, none⟩ = some (.string i) ∧ w'.cell? ⟨r, 5, none⟩ = some (.map (some mv))) (first | go_keep | assumption) (fail)
  go_wp2_with fail
  have b2 : Below w.heap.size w W1.drew := b1.drew
  have hr2 : W1.drew.heap[r]? = _ := hr1
  have hlb2 : W1.drew.heap[lb]? = _ := hlb1
  have hl2 : Held W1.drew mf lineR G := hl1.block rfl
  have hb2 : W1.drew.heap[w.heap.size]? = _ := hb1
  have hn2 : W1.drew.heap[w.heap.size + 1]? = _ := hn1
  clear hlook k0 k1 k2 b1 hr1 hlb1 hl1 hv1 hb1 hn1 t1 ho hv
  generalize W1.drew = W2 at *
  have hrn : r ≠ w.heap.size + 1 := by have := block_lt hr; omega
  have hKt : ∀ w', Touch (fun k => k = w.heap.size + 1) W2 w' → w'.cell? ⟨w.heap.size, 0, none⟩ = some (.string c) ∧ w'.cell? ⟨w.heap.size, 1, none⟩ = some (.string i) ∧ w'.cell? ⟨r, 6, none⟩ = some (.pointer (some ⟨lb, 0, none⟩)) := fun w' t =>
    ⟨cell_block (t.obj hb2 (by omega)) rfl, cell_block (t.obj hb2 (by omega)) rfl, cell_block (t.obj hr2 hrn) rfl⟩
  obtain ⟨k0, k1, k2⟩ := hKt W2 (Touch.refl _ _)
  have T0 : Touch (fun k => k = w.heap.size + 1) W2 W2.drew := ⟨rfl, rfl, rfl, Nat.le_refl _, fun _ _ _ => rfl⟩
  go_region_held3 (fun w' => w'.cell? ⟨w.heap.size, 0, none⟩ = some (.string c) ∧ w'.cell? ⟨w.heap.size, 1, none⟩ = some (.string i) ∧ w'.cell? ⟨r, 6, none⟩ = some (.pointer (some ⟨lb, 0, none⟩)))
    (first | exact hKt _ T0 | exact hKt _ T3 | exact hKt _ ((T3.trans (Touch.setCell _ _ _ rfl)).trans (Touch.setCell _ _ _ rfl)))
    (first | (go_at_call 19; refine (line_any lb mf c i G x W2.drew (by exact hlb2) (hl2.block rfl) hc hi hf).mono ?_; rintro e W3 ⟨rfl, b3⟩; have T3 : Touch (fun k => k = w.heap.size + 1) W2 W3 := T0.trans (Touch.of_below b3); have hn3 := (Touch.of_below (S := fun _ => False) b3).obj (b := w.heap.size + 1) (by exact hn2) (by simp); have n0 := cell_block (j := 0) hn3 rfl; have n1 := cell_block (j := 1) hn3 rfl; have f0 := frozen_block hn3 0; have f1 := frozen_block hn3 1))
  go_wp2_with fail
  have hnf := heap_setCell_same _ (w.heap.size + 1) 1 _ 63 (.string x.v) (heap_setCell_same W3 (w.heap.size + 1) 0 _ 63 (.int .i64 x.l) hn3)
  have B3 : Below w.heap.size w ((W3.setCell ⟨w.heap.size + 1, 0, none⟩ (.int .i64 x.l)).setCell ⟨w.heap.size + 1, 1, none⟩ (.string x.v)) := ((b2.trans (T3.toBelow (fun k h => by omega) b2.size)).setCell (by show _ ≤ w.heap.size + 1; omega) _).setCell (by show _ ≤ w.heap.size + 1; omega) _
  clear hn3 n0 n1 f0 f1 T3 b3 T0 hKt k0 k1 k2
  generalize (W3.setCell ⟨w.heap.size + 1, 0, none⟩ (.int .i64 x.l)).setCell ⟨w.heap.size + 1, 1, none⟩ (.string x.v) = W5 at *
  have rg : W5.rangeAt (w.heap.size + 1) 0 [.int .i64 x.l, .string x.v] := by
    intro j u hj
    rw [Nat.zero_add]
    exact cell_block hnf (by simpa using hj)
  have lv := run_loadVar_mid (P := Tryf.prog) W5 (w.heap.size + 1) 0 63 [.int .i64 x.l, .string x.v] _ rg Tryf.underlying63 rfl (by kernel_rfl)
  refine bodyPost_ret (v := .tuple #[.agg #[.int .i64 x.l, .string x.v], .bool true]) ?_ rfl ⟨rfl, B3⟩
  have hres : ∀ (tmps : Array Value), tmps.getD 4 undef = .pointer (some ⟨w.heap.size + 1, 0, none⟩) → tmps.getD 5 undef = .bool true →
      (results Tryf.f15 tmps).run Tryf.prog W5 = .ok (.tuple #[.agg #[.int .i64 x.l, .string x.v], .bool true]) W5 := by
    intro tmps g2 g3
    rw [results_cell_tmp Tryf.results15, g2, g3]
    show Result.andThen ((loadVar 63 ⟨w.heap.size + 1, 0, none⟩).run Tryf.prog W5) _ = _
    rw [lv]
    rfl
  exact hres _ rfl rfl

set_option maxHeartbeats 1000000 in
theorem zitem_some (B r : Nat) (fund : ByteArray) (G : List Ent) (c i : ByteArray) (x : Ent) (w : World) (hR : Res B w r fund G) (hc : c.size ≤ maxLen) (hi : i.size ≤ maxLen) (hf : findE G c i = some x) :
    Calls Tryf.prog 12 #[.pointer (some ⟨r, 0, none⟩), .string c, .string i] w fun e w' => e = .returned (.tuple #[.int .i64 x.l, .string x.v, .bool true]) ∧ Below w.heap.size w w' := by
  go_enter Tryf.func12, Tryf.ntmps12
  go_wp2_with fail
  refine (item_some B r fund G c i x w hR hc hi hf).mono ?_
  rintro e W1 ⟨rfl, b1⟩
  have b2 : Below w.heap.size w (W1.alloc (.cells #[.int .i64 x.l, .string x.v] 63)) := below_chain b1 ((Below.refl _ _).alloc (Nat.le_refl _) _)
  go_wp2_with fail
  go_quiet (fail)
  go_wp2
  go_ret3
  exact ⟨rfl, ⟨b2.os, b2.tape, b2.output, b2.size, b2.block⟩⟩

end Go.Proofs.Qxb6616044aFmt
