import Derived.Test.Qxb6616159aA
import Derived.ProofKit
import Derived.OpenShut
import Derived.ShutString
import Derived.ChangeOld
import Derived.SizedLaws
import Derived.Lib.SmallJoins
import Derived.Deep.Slices
import Derived.ChangeSame
namespace Go.Proofs.Qxb6616159a
open Go.ChangeShapes Go.WideShapes Go.ChangeAt Go.RowKit Go.Joins Go.Deep
set_option linter.unusedSimpArgs false

theorem Try.own : ownKnob Try.prog.godebug = none := by kernel_rfl
theorem Try.laidOut : laidOutB Try.prog = true := by kernel_rfl
theorem Try.cells9 : Try.prog.cellsOf 9 = 1 := by kernel_rfl
theorem Try.cells3 : Try.prog.cellsOf 3 = 1 := by kernel_rfl
theorem Try.cells26 : Try.prog.cellsOf 26 = 6 := by kernel_rfl

/-- One item, opened out of its six cells. -/
theorem open_it {H : Type} {enc : TypeId × Value → H} {W : World} {n : Nat} {cs : List Value} {x : DataW H × List MemPlace} (h : DataW.trod enc Try.prog W 0 (fun _ => true) true n 26 cs = some x) (hl : cs.length = 6) : ∃ q : It, cs = q.cells := by
  obtain ⟨xs, k, _, _, _, hxl, hf⟩ := DataW.trod_struct Try.underlying26 h
  match xs, hxl, cs, hl with
  | [y0, y1, y2, y3, y4, y5], _, [v0, v1, v2, v3, v4, v5], _ =>
    have g0 := hf 0 _ rfl
    have g1 := hf 1 _ rfl
    have g2 := hf 2 _ rfl
    have g3 := hf 3 _ rfl
    have g4 := hf 4 _ rfl
    have g5 := hf 5 _ rfl
    simp [Try.cells3, Try.cells9] at g0 g1 g2 g3 g4 g5
    obtain ⟨a0, e0, _⟩ := DataW.trod_int Try.underlying3 g0
    obtain ⟨a1, e1, _⟩ := DataW.trod_string Try.underlying9 g1
    obtain ⟨a2, e2, _⟩ := DataW.trod_int Try.underlying3 g2
    obtain ⟨a3, e3, _⟩ := DataW.trod_string Try.underlying9 g3
    obtain ⟨a4, e4, _⟩ := DataW.trod_int Try.underlying3 g4
    obtain ⟨a5, e5, _⟩ := DataW.trod_string Try.underlying9 g5
    simp only [List.cons.injEq, and_true] at e0 e1 e2 e3 e4 e5
    exact ⟨⟨a0, a1, a2, a3, a4, a5⟩, by rw [e0, e1, e2, e3, e4, e5]; rfl⟩

/-- The items that came in. -/
theorem items_view {H : Type} {enc : TypeId × Value → H} {W : World} {v : Value} {d : DataW H} {p : List MemPlace} (h : DataW.Trod enc Try.prog W 0 (fun _ => true) true 22 v d p) (h1 : v.cells.toList = [v]) :
    ∃ a xs c, v = .slice a xs.length c ∧ Items W a xs ∧ xs.length ≤ c ∧ c ≤ maxLen ∧ (a = none → c = 0) := by
  obtain ⟨n, h⟩ := h
  rw [h1] at h
  rcases open_slice Try.underlying22 h with ⟨hcs, _⟩ | ⟨a, len, cap, m, n, D, Pl, hcs, hb, hl, hm, hmm, _, hx⟩
  · simp at hcs
    subst hcs
    exact ⟨none, [], 0, rfl, fun i hi => by simp at hi, by simp, by simp, fun _ => rfl⟩
  · simp at hcs
    subst hcs
    simp only [if_true] at hmm
    have hmm' := hmm.symm
    subst hmm'
    have each : ∀ i, i < cap → ∃ q : It, W.cell? (a.add (i * 6)) = some (.int .i64 q.k) ∧ W.cell? (a.add (i * 6 + 1)) = some (.string q.t) ∧ W.cell? (a.add (i * 6 + 2)) = some (.int .i64 q.ck) ∧ W.cell? (a.add (i * 6 + 3)) = some (.string q.c) ∧ W.cell? (a.add (i * 6 + 4)) = some (.int .i64 q.pk) ∧ W.cell? (a.add (i * 6 + 5)) = some (.string q.p) := by
      intro i hi
      obtain ⟨cs', h1, h2⟩ := hx i hi
      rw [Try.cells26] at h1
      obtain ⟨_, hlen, hcell⟩ := World.cells?_some h1
      obtain ⟨q, rfl⟩ := open_it h2 hlen
      have c0 := hcell 0 (by omega)
      have c1 := hcell 1 (by omega)
      have c2 := hcell 2 (by omega)
      have c3 := hcell 3 (by omega)
      have c4 := hcell 4 (by omega)
      have c5 := hcell 5 (by omega)
      rw [add_add] at c0 c1 c2 c3 c4 c5
      exact ⟨q, by simpa [It.cells] using c0, by simpa [It.cells] using c1, by simpa [It.cells] using c2, by simpa [It.cells] using c3, by simpa [It.cells] using c4, by simpa [It.cells] using c5⟩
    have inh : Inhabited It := ⟨It.zero⟩
    obtain ⟨q, hq⟩ := choose_lt each
    refine ⟨some a, (List.range len).map q, cap, by simp, ?_, by simpa using hl, hm, by simp⟩
    intro i hi
    have hi' : i < len := by simpa using hi
    obtain ⟨g0, g1, g2, g3, g4, g5⟩ := hq i (by omega)
    have e : ((List.range len).map q).getD i It.zero = q i := by simp [List.getD_eq_getElem?_getD, hi']
    have hsp : a.spot = none := by
      have := World.cell?_spot (hq 0 (by omega)).1
      simpa [Addr.add] using this
    obtain ⟨b, off, spot⟩ := a
    simp only at hsp
    subst hsp
    rw [Addr.add_mid] at g0 g1 g2 g3 g4 g5
    rw [e]
    exact ⟨b, off, rfl, g0, g1, g2, g3, g4, g5⟩

end Go.Proofs.Qxb6616159a
