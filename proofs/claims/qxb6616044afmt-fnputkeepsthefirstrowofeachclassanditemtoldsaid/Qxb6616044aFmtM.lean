import Derived.Test.Qxb6616044aFmtL
import Derived.Deep.OwnRows
import Derived.Deep.CutBlock
namespace Go.Proofs.Qxb6616044aFmt
open Go.RowKit Go.Extern.Stop Go.Stop Go.Extern
set_option linter.unusedSimpArgs false

/-- Block g is an own column of N cells of type t; the first i of them are told by P. -/
def Col (t : TypeId) (w : World) (g N i : Nat) (P : Nat → Value) : Prop := ∃ arr : Array Value, w.heap[g]? = some (.cells arr t (0, 0)) ∧ arr.size = N ∧ ∀ j, j < i → arr[j]? = some (P j)
theorem Col.cell {t : TypeId} {w : World} {g N i : Nat} {P : Nat → Value} (h : Col t w g N i P) {j : Nat} (hj : j < i) : w.cell? ⟨g, j, none⟩ = some (P j) := by
  obtain ⟨arr, h1, h2, h3⟩ := h
  exact cell_block h1 (h3 j hj)
theorem Col.old {t : TypeId} {w : World} {g N i : Nat} {P : Nat → Value} (h : Col t w g N i P) {j : Nat} (hj : j < N) : ∃ v, w.cell? ⟨g, j, none⟩ = some v := by
  obtain ⟨arr, h1, h2, h3⟩ := h
  exact ⟨arr[j], cell_block h1 (Array.getElem?_eq_getElem (by omega))⟩
theorem Col.free {t : TypeId} {w : World} {g N i : Nat} {P : Nat → Value} (h : Col t w g N i P) (j : Nat) : w.frozen? ⟨g, j, none⟩ = false := by
  obtain ⟨arr, h1, h2, h3⟩ := h
  exact frozen_block h1 j
theorem Col.keep {S : Nat → Prop} {t : TypeId} {w w' : World} {g N i : Nat} {P : Nat → Value} (h : Col t w g N i P) (u : Touch S w w') (hn : ¬ S g) : Col t w' g N i P := by
  obtain ⟨arr, h1, h2, h3⟩ := h
  exact ⟨arr, u.obj h1 hn, h2, h3⟩
theorem Col.lt {t : TypeId} {w : World} {g N i : Nat} {P : Nat → Value} (h : Col t w g N i P) : g < w.heap.size := by
  obtain ⟨arr, h1, h2, h3⟩ := h
  exact block_lt h1
theorem Col.below {t : TypeId} {w w' : World} {g N i : Nat} {P : Nat → Value} (h : Col t w g N i P) (hb : Below w.heap.size w w') : Col t w' g N i P := h.keep (Touch.of_below (S := fun _ => False) hb) (by simp)
theorem Col.store {t : TypeId} {w : World} {g N i : Nat} {P : Nat → Value} (h : Col t w g N i P) (hi : i < N) {v : Value} (hv : P i = v) : Col t (w.setCell ⟨g, i, none⟩ v) g N (i + 1) P := by
  obtain ⟨arr, h1, h2, h3⟩ := h
  refine ⟨_, heap_setCell_same w g i arr t v h1, by simpa using h2, fun j hj => ?_⟩
  rw [Array.getElem?_setIfInBounds]
  by_cases e : i = j
  · subst e
    rw [if_pos rfl, if_pos (by omega), hv]
  · rw [if_neg e]
    exact h3 j (by omega)
theorem Col.other {t : TypeId} {w : World} {g N i k : Nat} {P : Nat → Value} (h : Col t w g N i P) (hk : i ≤ k) (v : Value) : Col t (w.setCell ⟨g, k, none⟩ v) g N i P := by
  obtain ⟨arr, h1, h2, h3⟩ := h
  refine ⟨_, heap_setCell_same w g k arr t v h1, by simpa using h2, fun j hj => ?_⟩
  rw [Array.getElem?_setIfInBounds, if_neg (by omega)]
  exact h3 j hj
theorem Col.made (t : TypeId) (w : World) (z : Value) (n : Nat) (P : Nat → Value) : Col t (w.alloc (.cells (madeCells #[z] n) t)) w.heap.size n 0 P :=
  ⟨_, heap_alloc_new w _, size_madeCells _ _, fun _ hj => absurd hj (Nat.not_lt_zero _)⟩
theorem Tryf.info9 : (Tryf.prog.info? 9).map (fun i => (i.zero, i.size, i.bytes)) = some (some (.string ⟨#[]⟩), 1, 16) := by kernel_rfl
theorem Tryf.info3 : (Tryf.prog.info? 3).map (fun i => (i.zero, i.size, i.bytes)) = some (some (.int .i64 0), 1, 8) := by kernel_rfl

/-! ### function 3, statement by statement -/
def tailAt : Nat → Code → Code
  | 0, c => c
  | n + 1, .seq _ b => tailAt n b
  | _ + 1, c => c
/-- What is left of a function's body behind its first k statements. -/
def tailOf (fn : Func) (k : Nat) : Code := tailAt k (fn.body.getD .skip)
theorem wp_tail {P : Program} {Q : Exit → Act → World → Prop} {a : Act} {w : World} {fn : Func} {c : Code} (k : Nat) (hk : tailOf fn k = .seq c (tailOf fn (k + 1)))
    (h : ∀ K : Act → World → Prop, (∀ a w, (tailOf fn (k + 1)).wp P Q a w → K a w) → c.wp P (Exit.then K Q) a w) : (tailOf fn k).wp P Q a w := by
  rw [hk]
  exact wp_seq_k h

/-- The entries of the rows. -/
def entries (f : ByteArray → Option Int) (rs : List Row) (ls : List Int) : List Ent := (List.range rs.length).map fun i => entOf f (rs.getD i Row.zero).ss (ls.getD i 0)
theorem entries_length (f : ByteArray → Option Int) (rs : List Row) (ls : List Int) : (entries f rs ls).length = rs.length := by simp [entries]
theorem entries_at (f : ByteArray → Option Int) (rs : List Row) (ls : List Int) {i : Nat} (hi : i < rs.length) : (entries f rs ls).getD i Ent.zero = entOf f (rs.getD i Row.zero).ss (ls.getD i 0) := by
  simp [entries, List.getD_eq_getElem?_getD, hi]

/-- The four own columns, filled up to i. -/
structure Cols4 (ws : World) (es : List Ent) (N i g1 g2 g3 g4 : Nat) : Prop where
  c1 : Col 9 ws g1 N i (fun j => .string (es.getD j Ent.zero).c)
  c2 : Col 9 ws g2 N i (fun j => .string (es.getD j Ent.zero).i)
  c3 : Col 9 ws g3 N i (fun j => .string (es.getD j Ent.zero).v)
  c4 : Col 3 ws g4 N i (fun j => .int .i64 (fstRow es j : Nat))
theorem Cols4.below {ws w' : World} {es : List Ent} {N i g1 g2 g3 g4 : Nat} (h : Cols4 ws es N i g1 g2 g3 g4) (hb : Below ws.heap.size ws w') : Cols4 w' es N i g1 g2 g3 g4 :=
  ⟨h.c1.below hb, h.c2.below hb, h.c3.below hb, h.c4.below hb⟩
theorem Cols4.heap {ws w' : World} {es : List Ent} {N i g1 g2 g3 g4 : Nat} (h : Cols4 ws es N i g1 g2 g3 g4) (e : w'.heap = ws.heap) : Cols4 w' es N i g1 g2 g3 g4 := by
  obtain ⟨⟨a1, x1, y1⟩, ⟨a2, x2, y2⟩, ⟨a3, x3, y3⟩, ⟨a4, x4, y4⟩⟩ := h
  exact ⟨⟨a1, by rw [e]; exact x1, y1⟩, ⟨a2, by rw [e]; exact x2, y2⟩, ⟨a3, by rw [e]; exact x3, y3⟩, ⟨a4, by rw [e]; exact x4, y4⟩⟩
/-- What is plain of the entries: how many, their lines, their sizes. -/
structure Plain (es : List Ent) (ls : List Int) (N : Nat) : Prop where
  n : es.length = N
  l : ls.length = N
  small : N ≤ 1024
  line : ∀ j, j < N → (es.getD j Ent.zero).l = ls.getD j 0
  cs : ∀ j, j < N → (es.getD j Ent.zero).c.size ≤ maxLen
  is : ∀ j, j < N → (es.getD j Ent.zero).i.size ≤ maxLen

end Go.Proofs.Qxb6616044aFmt
