import Derived.Test.Qxb6616044aFmtF
import Derived.Test.Qxb6616044aFmtCards
import Derived.ProofKit
import Derived.OpenShut
import Derived.ShutString
import Derived.ChangeSlices
import Derived.SliceStrings
import Derived.SizedLaws
import Derived.Lib.SmallJoins
import Derived.SevenToldRow
import Derived.Stop.JoinedTold
import Derived.WideKeyElems2
import Derived.Lay
namespace Go.Proofs.Qxb6616044aFmt
open Go.ChangeShapes Go.WideShapes Go.ChangeAt Go.RowKit Go.Joins
open Go.ChangeMaps (open_string shut_string)
open Go.Extern.Stop Go.Stop Go.Extern
set_option linter.unusedSimpArgs false

theorem Tryf.own : ownKnob Tryf.prog.godebug = none := by kernel_rfl
theorem Tryf.laidOutP : laidOutB Tryf.pinned.checked.prog = true := by kernel_rfl
theorem Tryf.bytes9 : Tryf.prog.bytesOf 9 = 16 := by kernel_rfl
theorem Tryf.under4 : Tryf.prog.underlying 4 = some .bool := by kernel_rfl
theorem Tryf.stops : Tryf.pinned.checked.prog.stops = ["fmt.errorf"] := by kernel_rfl
theorem Tryf.stopKnobs : Tryf.pinned.checked.prog.stopKnobs = [] := by kernel_rfl
theorem Tryf.quiet (os : Os) : Stop.quiet Tryf.pinned.checked.prog os := by
  intro k hk
  rw [Tryf.stopKnobs] at hk
  cases hk

theorem weights_strs {H : Type} {t : TypeId} (s : ByteArray) : ∀ l : List ByteArray, s ∈ l → s.size ∈ DataW.weightsAll (H := H) Tryf.prog t (strs l) := by
  intro l
  induction l with
  | nil => intro h; cases h
  | cons x l ih =>
    intro h
    have e : strs (H := H) (x :: l) = .lit (.string x.data.toList) :: strs l := rfl
    rw [e, DataW.weightsAll]
    rcases List.mem_cons.1 h with rfl | h
    · refine List.mem_append_left _ ?_
      simp [DataW.weights]
    · exact List.mem_append_right _ (ih h)

/-- A slice of strings that came in. -/
theorem strs_view {H : Type} {enc : TypeId × Value → H} {W : World} {v : Value} {d : DataW H} {p : List MemPlace} (h : DataW.Trod enc Tryf.prog W 0 (fun _ => true) true 26 v d p) (h1 : v.cells.toList = [v])
    (hz : ∀ k ∈ DataW.weights Tryf.prog 26 d, k ≤ reachBytes) : ∃ a s c, v = .slice a s.length c ∧ Strs W a s ∧ s.length ≤ 140737488355328 ∧ ∀ t ∈ s, t.size ≤ 140737488355328 := by
  obtain ⟨n, h⟩ := h
  rw [h1] at h
  have hrb : reachBytes ≤ 140737488355328 := by unfold reachBytes; omega
  rcases open_strings Tryf.underlying26 Tryf.underlying9 Tryf.cells9 h with ⟨hcs, hx⟩ | ⟨a, len, cap, ss, hcs, _, hl, hm, hlen, hx, hcell, hws⟩
  · simp at hcs
    subst hcs
    exact ⟨none, [], 0, rfl, fun i hi => by simp at hi, by simp, by simp⟩
  · simp at hcs
    subst hcs
    simp only [if_true] at hlen
    obtain ⟨rfl, rfl⟩ := Prod.mk.inj hx
    have hl2 : (ss.take len).length = len := by rw [List.length_take]; omega
    have hw : DataW.weights Tryf.prog 26 (DataW.slice (H := H) (strs (ss.take len)) (strs (ss.drop len))) = ((strs (H := H) (ss.take len)).length + (strs (H := H) (ss.drop len)).length) * 16 :: (DataW.weightsAll Tryf.prog 9 (strs (H := H) (ss.take len)) ++ DataW.weightsAll Tryf.prog 9 (strs (H := H) (ss.drop len))) := by
      simp only [DataW.weights, Tryf.underlying26, Tryf.bytes9]
    rw [hw] at hz
    have hb := hz _ (List.mem_cons_self ..)
    have hb2 : (strs (H := H) (ss.take len)).length = len := by simp [strs]; omega
    refine ⟨some a, ss.take len, cap, by rw [hl2], ?_, by rw [hl2]; omega, fun t ht => Nat.le_trans (hz _ (List.mem_cons_of_mem _ (List.mem_append_left _ (weights_strs t _ ht)))) hrb⟩
    intro i hi
    rw [hl2] at hi
    have hsp : a.spot = none := by simpa [Addr.add] using World.cell?_spot (hcell 0 (by omega))
    obtain ⟨b, off, spot⟩ := a
    simp only at hsp
    subst hsp
    refine ⟨b, off, rfl, ?_⟩
    have := hcell i (by omega)
    rw [Addr.add_mid] at this
    rw [this]
    simp [List.getD_eq_getElem?_getD, List.getElem?_take_of_lt hi]

/-- The columns' map that came in. -/
theorem cols_view {H : Type} {enc : TypeId × Value → H} {W : World} {v : Value} {d : DataW H} {p : List MemPlace} (h : DataW.Trod enc Tryf.prog W 0 (fun _ => true) true 22 v d p) (h1 : v.cells.toList = [v]) : ∃ m f, v = .map m ∧ Cols H W m f := by
  obtain ⟨n, h⟩ := h
  rw [h1] at h
  rcases WideElems.open_map Tryf.underlying22 h with ⟨hcs0, hx0⟩ | ⟨bm, es, clock, m', rfl, hcs0, hb, _, F, hx0⟩
  · exact ⟨none, fun _ => none, by simpa using hcs0, .inl ⟨rfl, fun _ => rfl⟩⟩
  · have hown := World.ownsMap_of_fit (R := plainElem Tryf.prog 3) hb F (fun x _ z hz => elemAt_plainElem_int Tryf.under3 hz)
    exact ⟨some bm, _, by simpa using hcs0, .inr ⟨bm, _, _, rfl, hown, fun s _ => rfl⟩⟩

end Go.Proofs.Qxb6616044aFmt
