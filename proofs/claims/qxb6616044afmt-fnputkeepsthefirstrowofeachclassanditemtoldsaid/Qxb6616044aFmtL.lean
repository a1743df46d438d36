import Derived.Test.Qxb6616044aFmtK
import Derived.Test.Qxb6616044aFmtG
import Derived.Deep.Slices
import Derived.ChangeSlices
namespace Go.Proofs.Qxb6616044aFmt
open Go.ChangeShapes Go.WideShapes Go.RowKit Go.Extern.Stop Go.Stop Go.Extern Go.Deep
set_option linter.unusedSimpArgs false

set_option maxHeartbeats 1000000 in
theorem item_none (B r : Nat) (fund : ByteArray) (G : List Ent) (c i : ByteArray) (w : World) (hR : Res B w r fund G) (hc : c.size ≤ maxLen) (hi : i.size ≤ maxLen) (hf : findE G c i = none) :
    Calls Tryf.prog 15 #[.pointer (some ⟨r, 0, none⟩), .agg #[.string c, .string i]] w fun e w' => e = .returned (.tuple #[.agg #[.int .i64 0, .string ⟨#[]⟩], .bool false]) ∧ Below w.heap.size w w' := by
  obtain ⟨lb, mv, mf, O, d1, d2, d3, d4, hB, hr, hlb, hv, hl, ho⟩ := hR
  have b1 : Below w.heap.size w ((w.alloc (.cells #[.string c, .string i] 61)).alloc (.cells #[.int .i64 0, .string ⟨#[]⟩] 63)) := ((Below.refl _ _).alloc (Nat.le_refl _) _).alloc (by simp) _
  have t1 := Touch.of_below (S := fun _ => False) b1
  have hb1 : ((w.alloc (.cells #[.string c, .string i] 61)).alloc (.cells #[.int .i64 0, .string ⟨#[]⟩] 63)).heap[w.heap.size]? = some (.cells #[.string c, .string i] 61 (0, 0)) := by
    simp only [get_alloc, alloc_size]
    rw [if_neg (by omega), if_pos trivial]
  have hn1 : ((w.alloc (.cells #[.string c, .string i] 61)).alloc (.cells #[.int .i64 0, .string ⟨#[]⟩] 63)).heap[w.heap.size + 1]? = some (.cells #[.int .i64 0, .string ⟨#[]⟩] 63 (0, 0)) := by
    simp only [get_alloc, alloc_size]
    rw [if_pos trivial]
  have hr1 := t1.obj hr (by simp)
  have hv1 := hv.keep t1 (by simp)
  go_enter Tryf.func15, Tryf.ntmps15
  go_wp2_with fail
  generalize ((w.alloc (.cells #[.string c, .string i] 61)).alloc (.cells #[.int .i64 0, .string ⟨#[]⟩] 63)) = W1 at *
  have k0 := cell_block (j := 0) hb1 rfl
  have k1 := cell_block (j := 1) hb1 rfl
  have k2 := cell_block (j := 5) hr1 rfl
  have hlook : (Instr.lookup 43 (.map (some mv)) (.agg #[.string c, .string i]) true).run Tryf.prog W1.drew = .ok (.tuple #[.string ⟨#[]⟩, .bool false]) W1.drew := by
    have := (hv1.block (w' := W1.drew) rfl).look Tryf.underlying43 (zero9 _) hc hi
    rw [hf] at this
    exact this
  go_region_held3 (fun w' => w'.cell? ⟨w.heap.size, 0, none⟩ = some (.string c) ∧ w'.cell? ⟨w.heap.size, 1, none⟩ = some (.string i) ∧ w'.cell? ⟨r, 5, none⟩ = some (.map (some mv))) (first | go_keep | assumption) (fail)
  have hn2 : W1.drew.heap[w.heap.size + 1]? = _ := hn1
  have b2 : Below w.heap.size w W1.drew := b1.drew
  clear hlook k0 k1 k2 b1 hr1 hv1 hb1 hn1 t1 ho hv
  generalize W1.drew = W2 at *
  have n0 := cell_block (j := 0) hn2 rfl
  have n1 := cell_block (j := 1) hn2 rfl
  have f0 := frozen_block hn2 0
  have f1 := frozen_block hn2 1
  go_wp2_with fail
  have hnf := heap_setCell_same _ (w.heap.size + 1) 1 _ 63 (.string ⟨#[]⟩) (heap_setCell_same W2 (w.heap.size + 1) 0 _ 63 (.int .i64 0) hn2)
  have B3 : Below w.heap.size w ((W2.setCell ⟨w.heap.size + 1, 0, none⟩ (.int .i64 0)).setCell ⟨w.heap.size + 1, 1, none⟩ (.string ⟨#[]⟩)) := (b2.setCell (by show _ ≤ w.heap.size + 1; omega) _).setCell (by show _ ≤ w.heap.size + 1; omega) _
  clear hn2 n0 n1 f0 f1
  generalize (W2.setCell ⟨w.heap.size + 1, 0, none⟩ (.int .i64 0)).setCell ⟨w.heap.size + 1, 1, none⟩ (.string ⟨#[]⟩) = W5 at *
  have rg : W5.rangeAt (w.heap.size + 1) 0 [.int .i64 0, .string ⟨#[]⟩] := by
    intro j u hj
    rw [Nat.zero_add]
    exact cell_block hnf (by simpa using hj)
  have lv := run_loadVar_mid (P := Tryf.prog) W5 (w.heap.size + 1) 0 63 [.int .i64 0, .string ⟨#[]⟩] _ rg Tryf.underlying63 rfl (by kernel_rfl)
  refine bodyPost_ret (v := .tuple #[.agg #[.int .i64 0, .string ⟨#[]⟩], .bool false]) ?_ rfl ⟨rfl, B3⟩
  have hres : ∀ (tmps : Array Value), tmps.getD 4 undef = .pointer (some ⟨w.heap.size + 1, 0, none⟩) → tmps.getD 5 undef = .bool false →
      (results Tryf.f15 tmps).run Tryf.prog W5 = .ok (.tuple #[.agg #[.int .i64 0, .string ⟨#[]⟩], .bool false]) W5 := by
    intro tmps g2 g3
    rw [results_cell_tmp Tryf.results15, g2, g3]
    show Result.andThen ((loadVar 63 ⟨w.heap.size + 1, 0, none⟩).run Tryf.prog W5) _ = _
    rw [lv]
    rfl
  exact hres _ rfl rfl

set_option maxHeartbeats 1000000 in
theorem zitem_none (B r : Nat) (fund : ByteArray) (G : List Ent) (c i : ByteArray) (w : World) (hR : Res B w r fund G) (hc : c.size ≤ maxLen) (hi : i.size ≤ maxLen) (hf : findE G c i = none) :
    Calls Tryf.prog 12 #[.pointer (some ⟨r, 0, none⟩), .string c, .string i] w fun e w' => e = .returned (.tuple #[.int .i64 0, .string ⟨#[]⟩, .bool false]) ∧ Below w.heap.size w w' := by
  go_enter Tryf.func12, Tryf.ntmps12
  go_wp2_with fail
  refine (item_none B r fund G c i w hR hc hi hf).mono ?_
  rintro e W1 ⟨rfl, b1⟩
  have b2 : Below w.heap.size w (W1.alloc (.cells #[.int .i64 0, .string ⟨#[]⟩] 63)) := below_chain b1 ((Below.refl _ _).alloc (Nat.le_refl _) _)
  go_wp2_with fail
  go_quiet (fail)
  go_wp2
  go_ret3
  exact ⟨rfl, ⟨b2.os, b2.tape, b2.output, b2.size, b2.block⟩⟩

/-! ### the arguments -/
/-- A row of fields: its slice and what it reads as. -/
structure Row where
  a : Option Addr
  ss : List ByteArray
  n : Nat
def Row.zero : Row := ⟨none, [], 0⟩
/-- The slice over 'a' reads as the rows rs. -/
def RowsAt (w : World) (a : Option Addr) (rs : List Row) : Prop :=
  ∀ i, i < rs.length → ∃ b off, a = some ⟨b, off, none⟩ ∧ w.cell? ⟨b, off + i, none⟩ = some (.slice (rs.getD i Row.zero).a (rs.getD i Row.zero).ss.length (rs.getD i Row.zero).n) ∧ Strs w (rs.getD i Row.zero).a (rs.getD i Row.zero).ss
theorem RowsAt.below {w w' : World} {a : Option Addr} {rs : List Row} (h : RowsAt w a rs) (hb : Below w.heap.size w w') : RowsAt w' a rs := by
  intro i hi
  obtain ⟨b, off, e, h1, h2⟩ := h i hi
  exact ⟨b, off, e, (hb.cell (cell_lt h1)).trans h1, h2.below hb⟩
/-- The slice over 'a' reads as the numbers ls. -/
def Ints (w : World) (a : Option Addr) (ls : List Int) : Prop :=
  ∀ i, i < ls.length → ∃ b off, a = some ⟨b, off, none⟩ ∧ w.cell? ⟨b, off + i, none⟩ = some (.int .i64 (ls.getD i 0))
theorem Ints.below {w w' : World} {a : Option Addr} {ls : List Int} (h : Ints w a ls) (hb : Below w.heap.size w w') : Ints w' a ls := by
  intro i hi
  obtain ⟨b, off, e, h1⟩ := h i hi
  exact ⟨b, off, e, (hb.cell (cell_lt h1)).trans h1⟩

theorem Tryf.cells26 : Tryf.prog.cellsOf 26 = 1 := by kernel_rfl
theorem Tryf.cells3 : Tryf.prog.cellsOf 3 = 1 := by kernel_rfl
theorem weights_all {H : Type} {t : TypeId} {d : DataW H} {k : Nat} (hk : k ∈ DataW.weights Tryf.prog t d) : ∀ ds : List (DataW H), d ∈ ds → k ∈ DataW.weightsAll Tryf.prog t ds
  | [], h => by cases h
  | x :: l, h => by
    rw [DataW.weightsAll]
    rcases List.mem_cons.1 h with rfl | h
    · exact List.mem_append_left _ hk
    · exact List.mem_append_right _ (weights_all hk l h)

theorem strs_viewT {H : Type} {enc : TypeId × Value → H} {W : World} {n : Nat} {v : Value} {y : DataW H × List MemPlace} (h : DataW.trod enc Tryf.prog W 0 (fun _ => true) true n 26 [v] = some y)
    (hz : ∀ k ∈ DataW.weights Tryf.prog 26 y.1, k ≤ reachBytes) : ∃ a s c, v = .slice a s.length c ∧ Strs W a s ∧ s.length ≤ 140737488355328 ∧ ∀ t ∈ s, t.size ≤ 140737488355328 := by
  have hv : ∃ a l c, v = .slice a l c := by
    rcases open_slice1 Tryf.underlying26 Tryf.cells9 h with ⟨e, _⟩ | ⟨a, l, c, _, _, _, _, _, e, _⟩
    · exact ⟨none, 0, 0, by simpa using e⟩
    · exact ⟨some a, l, c, by simpa using e⟩
  obtain ⟨a, l, c, rfl⟩ := hv
  exact strs_view (d := y.1) (p := y.2) ⟨n, h⟩ rfl hz

/-- The rows that came in. -/
theorem rows_view {H : Type} {enc : TypeId × Value → H} {W : World} {v : Value} {d : DataW H} {p : List MemPlace} (h : DataW.Trod enc Tryf.prog W 0 (fun _ => true) true 24 v d p) (h1 : v.cells.toList = [v])
    (hz : ∀ k ∈ DataW.weights Tryf.prog 24 d, k ≤ reachBytes) : ∃ a rs c, v = .slice a rs.length c ∧ RowsAt W a rs ∧ ∀ r ∈ rs, r.ss.length ≤ 140737488355328 ∧ ∀ t ∈ r.ss, t.size ≤ 140737488355328 := by
  obtain ⟨n, h⟩ := h
  rw [h1] at h
  rcases open_slice1 Tryf.underlying24 Tryf.cells26 h with ⟨hcs, _⟩ | ⟨a, len, cap, m, n, V, D, Pl, hcs, hb, hl, hm, hmm, hx, hel⟩
  · simp at hcs
    subst hcs
    exact ⟨none, [], 0, rfl, fun i hi => by simp at hi, by simp⟩
  · simp at hcs
    subst hcs
    simp only [if_true] at hmm
    have hmm' := hmm.symm
    subst hmm'
    obtain ⟨rfl, rfl⟩ := Prod.mk.inj hx
    have hw : ∀ i, i < len → ∀ k ∈ DataW.weights Tryf.prog 26 (D i), k ≤ reachBytes := fun i hi k hk => hz k (by
      simp only [DataW.weights, Tryf.underlying24]
      exact List.mem_cons_of_mem _ (List.mem_append_left _ (weights_all hk _ (List.mem_map_of_mem (List.mem_range.2 hi)))))
    have each : ∀ i, i < len → ∃ r : Row, V i = .slice r.a r.ss.length r.n ∧ Strs W r.a r.ss ∧ r.ss.length ≤ 140737488355328 ∧ ∀ t ∈ r.ss, t.size ≤ 140737488355328 := fun i hi => by
      obtain ⟨a, s, c, e, hs, hn, hz⟩ := strs_viewT (hel i (by omega)).2 (hw i hi)
      exact ⟨⟨a, s, c⟩, e, hs, hn, hz⟩
    have inh : Inhabited Row := ⟨Row.zero⟩
    obtain ⟨R, hR⟩ := choose_lt each
    refine ⟨some a, (List.range len).map R, cap, by simp, ?_, ?_⟩
    · intro i hi
      have hi' : i < len := by simpa using hi
      have e : ((List.range len).map R).getD i Row.zero = R i := by simp [List.getD_eq_getElem?_getD, hi']
      have hc := (hel i (by omega)).1
      have hsp : a.spot = none := by
        have := World.cell?_spot (hel 0 (by omega)).1
        simpa [Addr.add] using this
      obtain ⟨b, off, spot⟩ := a
      simp only at hsp
      subst hsp
      rw [Addr.add_mid, (hR i hi').1] at hc
      rw [e]
      exact ⟨b, off, rfl, hc, (hR i hi').2.1⟩
    · intro r hr
      obtain ⟨i, hi, rfl⟩ := List.mem_map.1 hr
      exact (hR i (List.mem_range.1 hi)).2.2

/-- The lines that came in. -/
theorem ints_view {H : Type} {enc : TypeId × Value → H} {W : World} {v : Value} {d : DataW H} {p : List MemPlace} (h : DataW.Trod enc Tryf.prog W 0 (fun _ => true) true 23 v d p) (h1 : v.cells.toList = [v]) :
    ∃ a ls c, v = .slice a ls.length c ∧ Ints W a ls := by
  obtain ⟨n, h⟩ := h
  rw [h1] at h
  rcases open_slice1 Tryf.underlying23 Tryf.cells3 h with ⟨hcs, _⟩ | ⟨a, len, cap, m, n, V, D, Pl, hcs, hb, hl, hm, hmm, hx, hel⟩
  · simp at hcs
    subst hcs
    exact ⟨none, [], 0, rfl, fun i hi => by simp at hi⟩
  · simp at hcs
    subst hcs
    simp only [if_true] at hmm
    have hmm' := hmm.symm
    subst hmm'
    have each : ∀ i, i < len → ∃ z : Int, V i = .int .i64 z := fun i hi => by
      obtain ⟨z, e, _⟩ := DataW.trod_int Tryf.under3 (hel i (by omega)).2
      exact ⟨z, by simpa using e⟩
    obtain ⟨Z, hZ⟩ := choose_lt each
    refine ⟨some a, (List.range len).map Z, cap, by simp, ?_⟩
    intro i hi
    have hi' : i < len := by simpa using hi
    have e : ((List.range len).map Z).getD i 0 = Z i := by simp [List.getD_eq_getElem?_getD, hi']
    have hc := (hel i (by omega)).1
    have hsp : a.spot = none := by
      have := World.cell?_spot (hel 0 (by omega)).1
      simpa [Addr.add] using this
    obtain ⟨b, off, spot⟩ := a
    simp only at hsp
    subst hsp
    rw [Addr.add_mid, hZ i hi'] at hc
    rw [e]
    exact ⟨b, off, rfl, hc⟩

end Go.Proofs.Qxb6616044aFmt
