import Derived.Test.Qxb6616159aRows
import Derived.WalkKit
import Derived.WalkSpells
import Derived.WalkLawsBesides
import Derived.Deep.QuietTactic
import Derived.BigQuiet
import Derived.Maps.Own
import Derived.Maps.OwnSet
import Derived.Maps.Views
import Derived.Maps.AppendAt
import Derived.Deep.AppendLies
import Derived.Deep.MidRow
import Derived.Laws.Concat
import Derived.Laws.ResultCell
namespace Go.Proofs.Qxb6616159a
open Go.RowKit
set_option linter.unusedSimpArgs false

theorem cell_lt {w : World} {a : Addr} {v : Value} (h : w.cell? a = some v) : a.block < w.heap.size := by
  rcases Nat.lt_or_ge a.block w.heap.size with h' | h'
  · exact h'
  · rw [World.cell?, Array.getElem?_eq_none h'] at h
    cases h
theorem hide {p : Prop} (h : p) : Hid p := h

/-- Only blocks of S have been written; new ones may be there. -/
structure Touch (S : Nat → Prop) (w w' : World) : Prop where
  os : w'.os = w.os
  tape : w'.tape = w.tape
  output : w'.output = w.output
  size : w.heap.size ≤ w'.heap.size
  block : ∀ k, k < w.heap.size → ¬ S k → w'.heap[k]? = w.heap[k]?

theorem Touch.refl (S : Nat → Prop) (w : World) : Touch S w w := ⟨rfl, rfl, rfl, Nat.le_refl _, fun _ _ _ => rfl⟩
theorem Touch.trans {S : Nat → Prop} {a b c : World} (h2 : Touch S a b) (h4 : Touch S b c) : Touch S a c :=
  ⟨h4.os.trans h2.os, h4.tape.trans h2.tape, h4.output.trans h2.output, Nat.le_trans h2.size h4.size, fun k hk hne => (h4.block k (Nat.lt_of_lt_of_le hk h2.size) hne).trans (h2.block k hk hne)⟩
theorem Touch.mono {S T : Nat → Prop} {a b : World} (h : Touch S a b) (hs : ∀ k, S k → T k) : Touch T a b :=
  ⟨h.os, h.tape, h.output, h.size, fun k hk hne => h.block k hk (fun h' => hne (hs k h'))⟩
theorem Touch.of_grown {S : Nat → Prop} {a b : World} {g : Option Nat} (h : a.grownBy b g) (hs : ∀ k, g = some k → S k) : Touch S a b :=
  ⟨h.os, h.tape, h.output, h.size, fun k hk hne => h.block k hk (fun e => hne (hs k e.symm))⟩
theorem Touch.of_below {S : Nat → Prop} {a b : World} (h : Below a.heap.size a b) : Touch S a b :=
  ⟨h.os, h.tape, h.output, h.size, fun k hk _ => h.block k hk⟩
theorem Touch.setCell {S : Nat → Prop} (w : World) (a : Addr) (v : Value) (h : S a.block) : Touch S w (w.setCell a v) :=
  ⟨rfl, rfl, rfl, by simp [World.setCell], fun k _ hne => Below.heap_setCell _ _ _ _ (fun e => hne (e ▸ h))⟩
theorem block_lt {w : World} {b : Nat} {o : Obj} (h : w.heap[b]? = some o) : b < w.heap.size := (Array.getElem?_eq_some_iff.1 h).1
theorem Touch.obj {S : Nat → Prop} {w w' : World} (h : Touch S w w') {b : Nat} {o : Obj} (hb : w.heap[b]? = some o) (hn : ¬ S b) : w'.heap[b]? = some o := (h.block b (block_lt hb) hn).trans hb
theorem Touch.toBelow {S : Nat → Prop} {w w' : World} {B : Nat} (t : Touch S w w') (hS : ∀ k, S k → B ≤ k) (hB : B ≤ w.heap.size) : Below B w w' :=
  ⟨t.os, t.tape, t.output, t.size, fun k hk => t.block k (by omega) (fun e => by have := hS k e; omega)⟩
theorem below_chain {w W W' : World} (h1 : Below w.heap.size w W) (h2 : Below W.heap.size W W') : Below w.heap.size w W' := h1.trans (h2.mono h1.size)


theorem cell_block {w : World} {b j : Nat} {cs : Array Value} {t : TypeId} {v : Value} (h : w.heap[b]? = some (.cells cs t (0, 0))) (hj : cs[j]? = some v) : w.cell? ⟨b, j, none⟩ = some v := by
  rw [World.cell?, h]
  simpa using hj
theorem frozen_block {w : World} {b : Nat} {cs : Array Value} {t : TypeId} (h : w.heap[b]? = some (.cells cs t (0, 0))) (j : Nat) : w.frozen? ⟨b, j, none⟩ = false := by rw [World.frozen?, h]; simp
theorem get_alloc (w : World) (o : Obj) (k : Nat) : (w.alloc o).heap[k]? = if k = w.heap.size then some o else w.heap[k]? := by
  show (w.heap.push o)[k]? = _
  rw [Array.getElem?_push]
theorem alloc_size (w : World) (o : Obj) : (w.alloc o).heap.size = w.heap.size + 1 := by simp
def intOf : Value → Int | .int _ n => n | _ => 0

/-- An item. -/
structure It where
  k : Int
  t : ByteArray
  ck : Int
  c : ByteArray
  pk : Int
  p : ByteArray
def It.cells (x : It) : List Value := [.int .i64 x.k, .string x.t, .int .i64 x.ck, .string x.c, .int .i64 x.pk, .string x.p]
def It.val (x : It) : Value := .agg #[.int .i64 x.k, .string x.t, .int .i64 x.ck, .string x.c, .int .i64 x.pk, .string x.p]
def It.zero : It := ⟨0, ByteArray.empty, 0, ByteArray.empty, 0, ByteArray.empty⟩
/-- The slice over 'a' reads as the items xs. -/
def Items (w : World) (a : Option Addr) (xs : List It) : Prop :=
  ∀ i, i < xs.length → ∃ b off, a = some ⟨b, off, none⟩ ∧ w.cell? ⟨b, off + i * 6, none⟩ = some (.int .i64 (xs.getD i It.zero).k) ∧ w.cell? ⟨b, off + i * 6 + 1, none⟩ = some (.string (xs.getD i It.zero).t) ∧
    w.cell? ⟨b, off + i * 6 + 2, none⟩ = some (.int .i64 (xs.getD i It.zero).ck) ∧ w.cell? ⟨b, off + i * 6 + 3, none⟩ = some (.string (xs.getD i It.zero).c) ∧
    w.cell? ⟨b, off + i * 6 + 4, none⟩ = some (.int .i64 (xs.getD i It.zero).pk) ∧ w.cell? ⟨b, off + i * 6 + 5, none⟩ = some (.string (xs.getD i It.zero).p)
theorem Items.below {w w' : World} {a : Option Addr} {xs : List It} (h : Items w a xs) (hb : Below w.heap.size w w') : Items w' a xs := by
  intro i hi
  obtain ⟨b, off, rfl, h0, h1, h2, h3, h4, h5⟩ := h i hi
  refine ⟨b, off, rfl, ?_, ?_, ?_, ?_, ?_, ?_⟩
  · exact (hb.cell (cell_lt h0)).trans h0
  · exact (hb.cell (cell_lt h1)).trans h1
  · exact (hb.cell (cell_lt h2)).trans h2
  · exact (hb.cell (cell_lt h3)).trans h3
  · exact (hb.cell (cell_lt h4)).trans h4
  · exact (hb.cell (cell_lt h5)).trans h5
def BoolRet (e : Ending) : Prop := ∃ r : Bool, e = .returned (.bool r)

def wfIt (x : It) : Bool := x.k == 0 || (x.k == 1 && x.ck == 1 && x.pk == 1)
def expo : ByteArray := ⟨#[101, 120, 112, 111, 114, 116, 115, 46]⟩
def dot : ByteArray := ⟨#[46]⟩
/-- The import that an item stands for. -/
def impIt (x : It) : ByteArray × ByteArray := if x.k = 0 then (expo ++ x.t, dot) else (x.c, x.p)

theorem wellFormed_any (x : It) (w : World) : Calls Try.prog 7 #[x.val] w fun e w' => e = .returned (.bool (wfIt x)) ∧ Below w.heap.size w w' := by
  obtain ⟨k, t, ck, c, pk, p⟩ := x
  unfold It.val
  go_enter Try.func7, Try.ntmps7
  by_cases h0 : k = 0
  · subst h0
    go_wp2
    go_ret
    exact ⟨rfl, (Below.refl _ _).alloc (Nat.le_refl _) _⟩
  · by_cases h1 : k = 1
    · subst h1
      by_cases h2 : ck = 1
      · subst h2
        by_cases h3 : pk = 1
        · subst h3
          go_wp2
          go_ret
          exact ⟨rfl, (Below.refl _ _).alloc (Nat.le_refl _) _⟩
        · have e3 : (pk == 1) = false := by simp [h3]
          go_wp2
          go_ret
          exact ⟨by simp [wfIt, h3], (Below.refl _ _).alloc (Nat.le_refl _) _⟩
      · have e2 : (ck == 1) = false := by simp [h2]
        go_wp2
        go_ret
        exact ⟨by simp [wfIt, h2], (Below.refl _ _).alloc (Nat.le_refl _) _⟩
    · have e0 : (k == 0) = false := by simp [h0]
      have e1 : (k == 1) = false := by simp [h1]
      go_wp2
      go_ret
      exact ⟨by simp [wfIt, h0, h1], (Below.refl _ _).alloc (Nat.le_refl _) _⟩

end Go.Proofs.Qxb6616159a
