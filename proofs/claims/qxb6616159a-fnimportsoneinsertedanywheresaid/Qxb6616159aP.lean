import Derived.Test.Qxb6616159aG
namespace Go.Proofs.Qxb6616159a

/-- One step of the search: f is what was found so far. -/
def firstStep (k : Nat) (x : It) (i : Nat) (f : Int) : Int := if wfIt x = true then (if k ≤ i then (if f < 0 then (i : Int) else f) else f) else f
/-- The first well-formed item at or behind k, told from position i on; f if there is none. -/
def firstFrom (k : Nat) : List It → Nat → Int → Int
  | [], _, f => f
  | x :: xs, i, f => firstFrom k xs (i + 1) (firstStep k x i f)
theorem firstFrom_snoc (k : Nat) (x : It) : ∀ (xs : List It) (i : Nat) (f : Int), firstFrom k (xs ++ [x]) i f = firstStep k x (i + xs.length) (firstFrom k xs i f)
  | [], i, f => rfl
  | y :: ys, i, f => by
    rw [List.cons_append, firstFrom, firstFrom_snoc k x ys (i + 1) _, firstFrom, List.length_cons, show i + 1 + ys.length = i + (ys.length + 1) from by omega]
theorem imps_append (xs ys : List It) : imps (xs ++ ys) = imps xs ++ imps ys := by simp [imps]
theorem imps_cons (x : It) (xs : List It) : imps (x :: xs) = if wfIt x = true then impIt x :: imps xs else imps xs := by
  unfold imps
  cases h : wfIt x <;> simp [h]
theorem firstFrom_found (k : Nat) : ∀ (xs : List It) (i : Nat) (f : Int), 0 ≤ f → firstFrom k xs i f = f
  | [], _, _, _ => rfl
  | x :: xs, i, f, h => by
    have e : firstStep k x i f = f := by
      unfold firstStep
      rw [if_neg (show ¬ f < 0 by omega)]
      simp
    rw [firstFrom, e, firstFrom_found k xs (i + 1) f h]
/-- What the search finds is the item that the tail's first import is read from. -/
theorem firstFrom_spec (k : Nat) : ∀ (xs : List It) (i : Nat) (f : Int), f < 0 →
    (imps (xs.drop (k - i)) = [] ∧ firstFrom k xs i f = f) ∨ ∃ j rest, j < xs.length ∧ firstFrom k xs i f = ((i + j : Nat) : Int) ∧ imps (xs.drop (k - i)) = impIt (xs.getD j It.zero) :: rest
  | [], i, f, _ => .inl ⟨by simp [imps], rfl⟩
  | x :: xs, i, f, hf => by
    by_cases hk : k ≤ i
    · have e0 : k - i = 0 := by omega
      have e1 : k - (i + 1) = 0 := by omega
      rw [e0, List.drop_zero, imps_cons, firstFrom]
      cases hw : wfIt x with
      | true =>
        rw [if_pos rfl]
        have es : firstStep k x i f = (i : Int) := by unfold firstStep; rw [if_pos hw, if_pos hk, if_pos hf]
        rw [es, firstFrom_found k xs (i + 1) _ (by omega)]
        exact .inr ⟨0, imps xs, by simp, by simp, rfl⟩
      | false =>
        rw [if_neg (by simp)]
        have es : firstStep k x i f = f := by unfold firstStep; rw [if_neg (by simp [hw])]
        rw [es]
        rcases firstFrom_spec k xs (i + 1) f hf with ⟨h1, h2⟩ | ⟨j, rest, h1, h2, h3⟩
        · rw [e1, List.drop_zero] at h1
          exact .inl ⟨h1, h2⟩
        · rw [e1, List.drop_zero] at h3
          exact .inr ⟨j + 1, rest, by simpa using h1, by rw [h2, show i + 1 + j = i + (j + 1) from by omega], by simpa [List.getD_eq_getElem?_getD] using h3⟩
    · have es : firstStep k x i f = f := by unfold firstStep; rw [if_neg hk]; simp
      have e1 : k - i = (k - (i + 1)) + 1 := by omega
      rw [e1, List.drop_succ_cons, firstFrom, es]
      rcases firstFrom_spec k xs (i + 1) f hf with ⟨h1, h2⟩ | ⟨j, rest, h1, h2, h3⟩
      · exact .inl ⟨h1, h2⟩
      · exact .inr ⟨j + 1, rest, by simpa using h1, by rw [h2, show i + 1 + j = i + (j + 1) from by omega], by simpa [List.getD_eq_getElem?_getD] using h3⟩

end Go.Proofs.Qxb6616159a
