import Derived.Test.Qxb6616159aH
import Derived.OwnWalk
namespace Go.Proofs.Qxb6616159a
open Go.RowKit
set_option linter.unusedSimpArgs false

def itCells (l : List It) : List Value := l.flatMap It.cells
theorem itCells_cons (x : It) (l : List It) : itCells (x :: l) = x.cells ++ itCells l := rfl
theorem itCells_append (l m : List It) : itCells (l ++ m) = itCells l ++ itCells m := by simp [itCells]
theorem itCells_length : ∀ l : List It, (itCells l).length = l.length * 6
  | [] => rfl
  | x :: l => by
    rw [itCells_cons, List.length_append, itCells_length l, List.length_cons]
    show 6 + _ = _
    omega
theorem itCells_one (l : List It) : ∀ u ∈ itCells l, u.oneCell' = true := by
  intro u hu
  obtain ⟨x, _, hx⟩ := List.mem_flatMap.1 hu
  simp [It.cells] at hx
  rcases hx with rfl | rfl | rfl | rfl | rfl | rfl <;> rfl
theorem itCells_inv : ∀ (l : List It) (j : Nat) (u : Value), (itCells l)[j]? = some u → ∃ i k, i < l.length ∧ j = i * 6 + k ∧ k < 6 ∧ (l.getD i It.zero).cells[k]? = some u
  | [], j, u, h => by simp [itCells] at h
  | x :: l, j, u, h => by
    rw [itCells_cons] at h
    have e6 : x.cells.length = 6 := rfl
    by_cases hj : j < 6
    · rw [List.getElem?_append_left (by omega)] at h
      exact ⟨0, j, by simp, by omega, hj, by simpa [List.getD_eq_getElem?_getD] using h⟩
    · rw [List.getElem?_append_right (by omega), e6] at h
      obtain ⟨i, k, h1, h2, h3, h4⟩ := itCells_inv l (j - 6) u h
      exact ⟨i + 1, k, by simpa using h1, by omega, h3, by simpa [List.getD_eq_getElem?_getD] using h4⟩
theorem itCells_get : ∀ (l : List It) (i k : Nat), i < l.length → k < 6 → (itCells l)[i * 6 + k]? = (l.getD i It.zero).cells[k]?
  | [], i, k, h, _ => by simp at h
  | x :: l, 0, k, _, hk => by
    rw [itCells_cons, List.getElem?_append_left (by show 0 * 6 + k < 6; omega)]
    simp [List.getD_eq_getElem?_getD]
  | x :: l, i + 1, k, h, hk => by
    have e6 : x.cells.length = 6 := rfl
    rw [itCells_cons, List.getElem?_append_right (by rw [e6]; omega), e6, show (i + 1) * 6 + k - 6 = i * 6 + k from by omega, itCells_get l i k (by simpa using h) hk]
    simp [List.getD_eq_getElem?_getD]
theorem items_news {w : World} {ad : Addr} {ys : List It} (h : Items w (some ad) ys) : ∀ j u, (itCells ys)[j]? = some u → w.cell? (ad.add j) = some u := by
  intro j u hu
  obtain ⟨i, k, hi, rfl, hk, hc⟩ := itCells_inv ys j u hu
  obtain ⟨b, off, e, h0, h1, h2, h3, h4, h5⟩ := h i hi
  cases e
  rw [Addr.add_mid]
  match k, hk with
  | 0, _ => simp [It.cells] at hc; subst hc; exact h0
  | 1, _ => simp [It.cells] at hc; subst hc; rw [← Nat.add_assoc]; exact h1
  | 2, _ => simp [It.cells] at hc; subst hc; rw [← Nat.add_assoc]; exact h2
  | 3, _ => simp [It.cells] at hc; subst hc; rw [← Nat.add_assoc]; exact h3
  | 4, _ => simp [It.cells] at hc; subst hc; rw [← Nat.add_assoc]; exact h4
  | 5, _ => simp [It.cells] at hc; subst hc; rw [← Nat.add_assoc]; exact h5
theorem items_of_row {B : Nat} {O : Value} {l : List It} {w : World} (h : w.ownsRow B 26 6 O l.length (itCells l)) : ∃ ad cap, O = .slice ad l.length cap ∧ Items w ad l := by
  obtain ⟨ad, cap, e, f⟩ := row_form h
  refine ⟨ad, cap, e, fun i hi => ?_⟩
  have g := fun k (hk : k < 6) => itCells_get l i k hi hk
  obtain ⟨b, e0, c0⟩ := f _ _ ((g 0 (by omega)).trans rfl)
  subst e0
  have nx : ∀ k u, k < 6 → (l.getD i It.zero).cells[k]? = some u → w.cell? ⟨b, i * 6 + k, none⟩ = some u := fun k u hk hc => by
    obtain ⟨b', e1, c1⟩ := f _ _ ((g k hk).trans hc)
    cases e1
    exact c1
  refine ⟨b, 0, rfl, ?_, ?_, ?_, ?_, ?_, ?_⟩
  · rw [Nat.zero_add]; exact nx 0 _ (by omega) rfl
  · rw [Nat.zero_add]; exact nx 1 _ (by omega) rfl
  · rw [Nat.zero_add]; exact nx 2 _ (by omega) rfl
  · rw [Nat.zero_add]; exact nx 3 _ (by omega) rfl
  · rw [Nat.zero_add]; exact nx 4 _ (by omega) rfl
  · rw [Nat.zero_add]; exact nx 5 _ (by omega) rfl

theorem Try.info26 : (Try.prog.info? 26).map (fun i => (i.zero, i.size, i.bytes)) = some (some It.zero.val, 6, 72) := by kernel_rfl

/-- 'append(O, ys...)' onto an own row of items. -/
theorem append_items (B : Nat) (O : Value) (l ys : List It) (a : Option Addr) (c : Nat) (w : World) (ho : w.ownsRow B 26 6 O l.length (itCells l)) (hO : O ≠ .slice none 0 0) (hy : Items w a ys) (hB : B ≤ w.heap.size) (hn : l.length + ys.length ≤ 10000000) (hc : a = none → c = 0 ∧ ys = []) :
    ∃ v' w', (Builtin.append_ #[22, 22] 22 #[O, .slice a ys.length c]).run Try.prog w = .ok v' w' ∧ w'.ownsRow B 26 6 v' (l ++ ys).length (itCells (l ++ ys)) ∧ v' ≠ .slice none 0 0 ∧ Touch (fun k => B ≤ k) w w' := by
  obtain ⟨i0, hi0, hz0, hz1, hz2⟩ := info_parts Try.info26
  cases a with
  | none =>
    obtain ⟨rfl, rfl⟩ := hc rfl
    refine ⟨O, w, ?_, by simpa using ho, hO, Touch.refl _ _⟩
    rcases ho.2 with ⟨h, _⟩ | ⟨g, cap, cur, rfl, hb, hh, hnc, r⟩
    · exact absurd h hO
    · simp [Builtin.append_, run_underlying Try.underlying22, sizeOf, typeInfo, hi0, Builtin.lenOf, Builtin.firstCells, loadCells, loadCellsFrom, hnc]
      rfl
  | some ad =>
    obtain ⟨v', w', hr, h1, hg, hnil, _⟩ := run_append_own_at (P := Try.prog) w B 22 22 26 i0 _ 6 72 Try.underlying22 hi0 hz0 hz1 hz2 rfl (by decide) O l.length (itCells l) ho ad ys.length c (itCells ys) (itCells_length ys) (items_news hy) (itCells_one ys) (by unfold maxLen; omega) (by omega) hB
    refine ⟨v', w', hr, by rw [List.length_append, itCells_append]; exact h1, fun e => hO (hnil.1 e).1, Touch.of_grown hg fun k hk => ?_⟩
    exact (own_cells ho k hk).1

end Go.Proofs.Qxb6616159a
