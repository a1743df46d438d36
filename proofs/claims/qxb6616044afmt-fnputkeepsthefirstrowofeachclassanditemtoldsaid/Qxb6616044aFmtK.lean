import Derived.Test.Qxb6616044aFmtF
namespace Go.Proofs.Qxb6616044aFmt

def Ent.zero : Ent := ⟨ByteArray.empty, ByteArray.empty, 0, ByteArray.empty⟩
/-- Element k of l has class c and item i. -/
def Hits (l : List Ent) (c i : ByteArray) (k : Nat) : Prop := (l.getD k Ent.zero).c = c ∧ (l.getD k Ent.zero).i = i
/-- The place of the first entry of a class and item. -/
def idxRow (l : List Ent) (c i : ByteArray) : Nat := l.findIdx (fun e => decide (e.c = c ∧ e.i = i))
theorem getD_eq {l : List Ent} {k : Nat} (h : k < l.length) : l.getD k Ent.zero = l[k] := by
  rw [List.getD_eq_getElem?_getD, List.getElem?_eq_getElem h]
  rfl
theorem find_idx (c i : ByteArray) : ∀ l : List Ent, findE l c i = l[idxRow l c i]?
  | [] => rfl
  | e :: l => by
    unfold findE idxRow
    rw [List.find?_cons, List.findIdx_cons]
    cases h : decide (e.c = c ∧ e.i = i) with
    | true => simp
    | false =>
      have := find_idx c i l
      unfold findE idxRow at this
      simpa using this
theorem idx_eq {l : List Ent} {c i : ByteArray} {j : Nat} (hj : j < l.length) (hm : Hits l c i j) (hn : ∀ k, k < j → ¬ Hits l c i k) : idxRow l c i = j := by
  unfold idxRow
  rw [List.findIdx_eq hj]
  refine ⟨?_, fun k hk => ?_⟩
  · unfold Hits at hm
    rw [getD_eq hj] at hm
    exact decide_eq_true hm
  · have := hn k hk
    unfold Hits at this
    rw [getD_eq (by omega)] at this
    exact decide_eq_false this
theorem find_none {l : List Ent} {c i : ByteArray} (hn : ∀ k, k < l.length → ¬ Hits l c i k) : findE l c i = none := by
  unfold findE
  rw [List.find?_eq_none]
  intro e he
  obtain ⟨k, hk, rfl⟩ := List.getElem_of_mem he
  have := hn k hk
  unfold Hits at this
  rw [getD_eq hk] at this
  simpa using this
theorem find_some {l : List Ent} {c i : ByteArray} {j : Nat} (hj : j < l.length) (hm : Hits l c i j) (hn : ∀ k, k < j → ¬ Hits l c i k) : findE l c i = some (l.getD j Ent.zero) := by
  rw [find_idx, idx_eq hj hm hn, List.getElem?_eq_getElem hj, getD_eq hj]
theorem hits_take {l : List Ent} {c i : ByteArray} {j k : Nat} (hk : k < j) : Hits (l.take j) c i k ↔ Hits l c i k := by
  unfold Hits
  rw [List.getD_eq_getElem?_getD, List.getD_eq_getElem?_getD, List.getElem?_take_of_lt hk]
/-- The first row with row i's class and item. -/
def fstRow (l : List Ent) (i : Nat) : Nat := idxRow l (l.getD i Ent.zero).c (l.getD i Ent.zero).i
/-- Row i is the first of its kind, or an earlier one is. -/
theorem fst_cases {l : List Ent} {i : Nat} (hi : i < l.length) :
    (fstRow l i = i ∧ ∀ k, k < i → ¬ Hits l (l.getD i Ent.zero).c (l.getD i Ent.zero).i k) ∨
    (fstRow l i < i ∧ Hits l (l.getD i Ent.zero).c (l.getD i Ent.zero).i (fstRow l i) ∧ ∀ k, k < fstRow l i → ¬ Hits l (l.getD i Ent.zero).c (l.getD i Ent.zero).i k) := by
  have key : ∀ j, j ≤ i → (∀ k, k < j → ¬ Hits l (l.getD i Ent.zero).c (l.getD i Ent.zero).i k) ∨ ∃ m, m < j ∧ Hits l (l.getD i Ent.zero).c (l.getD i Ent.zero).i m ∧ ∀ k, k < m → ¬ Hits l (l.getD i Ent.zero).c (l.getD i Ent.zero).i k := by
    intro j
    induction j with
    | zero => exact fun _ => .inl fun k hk => absurd hk (Nat.not_lt_zero _)
    | succ j ih =>
      intro hj
      rcases ih (by omega) with h | ⟨m, h1, h2, h3⟩
      · by_cases hm : Hits l (l.getD i Ent.zero).c (l.getD i Ent.zero).i j
        · exact .inr ⟨j, by omega, hm, h⟩
        · refine .inl fun k hk => ?_
          rcases Nat.lt_succ_iff_lt_or_eq.1 hk with hk | rfl
          · exact h k hk
          · exact hm
      · exact .inr ⟨m, by omega, h2, h3⟩
  rcases key i (Nat.le_refl _) with h | ⟨m, h1, h2, h3⟩
  · exact .inl ⟨idx_eq hi ⟨rfl, rfl⟩ h, h⟩
  · have e : fstRow l i = m := idx_eq (by omega) h2 h3
    rw [e]
    exact .inr ⟨h1, h2, h3⟩
theorem fst_find {l : List Ent} {i : Nat} (hi : i < l.length) : fstRow l i < l.length ∧ findE l (l.getD i Ent.zero).c (l.getD i Ent.zero).i = some (l.getD (fstRow l i) Ent.zero) := by
  rcases fst_cases hi with ⟨h1, h2⟩ | ⟨h1, h2, h3⟩
  · exact ⟨by omega, by rw [h1]; exact find_some hi ⟨rfl, rfl⟩ h2⟩
  · exact ⟨by omega, find_some (by omega) h2 h3⟩
theorem fst_take {l : List Ent} {i : Nat} (hi : i < l.length) :
    (fstRow l i = i ∧ findE (l.take i) (l.getD i Ent.zero).c (l.getD i Ent.zero).i = none) ∨ (fstRow l i ≠ i ∧ ∃ x, findE (l.take i) (l.getD i Ent.zero).c (l.getD i Ent.zero).i = some x) := by
  have hl : (l.take i).length = i := by rw [List.length_take]; omega
  rcases fst_cases hi with ⟨h1, h2⟩ | ⟨h1, h2, h3⟩
  · exact .inl ⟨h1, find_none fun k hk h => h2 k (by omega) ((hits_take (by omega)).1 h)⟩
  · exact .inr ⟨by omega, _, find_some (j := fstRow l i) (by omega) ((hits_take h1).2 h2) (fun k hk h => h3 k hk ((hits_take (by omega)).1 h))⟩

/-- What G has become when the rows l have been put, in order. -/
def accFrom (G : List Ent) : List Ent → List Ent
  | [] => G
  | e :: l => accFrom (if (findE G e.c e.i).isNone then G ++ [e] else G) l
def accRows (l : List Ent) : List Ent := accFrom [] l
theorem accFrom_append (G l m : List Ent) : accFrom G (l ++ m) = accFrom (accFrom G l) m := by
  induction l generalizing G with
  | nil => rfl
  | cons e l ih => rw [List.cons_append, accFrom, ih, accFrom]
theorem accFrom_prefix (G l : List Ent) : ∃ t, accFrom G l = G ++ t := by
  induction l generalizing G with
  | nil => exact ⟨[], by simp [accFrom]⟩
  | cons e l ih =>
    rw [accFrom]
    obtain ⟨t, ht⟩ := ih (if (findE G e.c e.i).isNone then G ++ [e] else G)
    rw [ht]
    split
    · exact ⟨e :: t, by simp⟩
    · exact ⟨t, rfl⟩
theorem findE_append (G l : List Ent) (c i : ByteArray) : findE (G ++ l) c i = (findE G c i).or (findE l c i) := by
  unfold findE
  rw [List.find?_append]
theorem findE_accFrom (G l : List Ent) (c i : ByteArray) : findE (accFrom G l) c i = findE (G ++ l) c i := by
  induction l generalizing G with
  | nil => simp [accFrom]
  | cons e l ih =>
    rw [accFrom, ih]
    split
    · rw [List.append_assoc, List.singleton_append]
    · rename_i h
      rw [findE_append, findE_append]
      cases hg : findE G c i with
      | some x => rfl
      | none =>
        have hne : ¬ (e.c = c ∧ e.i = i) := by
          rintro ⟨rfl, rfl⟩
          rw [hg] at h
          exact h rfl
        simp [findE, hne]
theorem findE_acc (l : List Ent) (c i : ByteArray) : findE (accRows l) c i = findE l c i := by
  rw [accRows, findE_accFrom, List.nil_append]
theorem acc_take {l : List Ent} {i : Nat} (hi : i < l.length) : accRows (l.take (i + 1)) = if (findE (l.take i) (l.getD i Ent.zero).c (l.getD i Ent.zero).i).isNone then accRows (l.take i) ++ [l.getD i Ent.zero] else accRows (l.take i) := by
  have e : l.take (i + 1) = l.take i ++ [l.getD i Ent.zero] := by
    rw [List.take_add_one, List.getElem?_eq_getElem hi, getD_eq hi]
    rfl
  rw [e, accRows, accFrom_append, ← accRows, accFrom, accFrom, findE_acc]
theorem acc_length_le (l : List Ent) : (accRows l).length ≤ l.length := by
  have : ∀ G l, (accFrom G l).length ≤ G.length + l.length := by
    intro G l
    induction l generalizing G with
    | nil => simp [accFrom]
    | cons e l ih =>
      rw [accFrom]
      refine Nat.le_trans (ih _) ?_
      split
      · simp; omega
      · simp
  have := this [] l
  simpa [accRows] using this
/-- The k-th accepted row, where row i is accepted and k were accepted before. -/
theorem acc_at {l : List Ent} {i : Nat} (hi : i < l.length) (hf : findE (l.take i) (l.getD i Ent.zero).c (l.getD i Ent.zero).i = none) : (accRows l)[(accRows (l.take i)).length]? = some (l.getD i Ent.zero) := by
  have h1 := acc_take hi
  rw [hf] at h1
  simp only [Option.isNone_none, if_true] at h1
  have h2 : accRows l = accFrom (accRows (l.take (i + 1))) (l.drop (i + 1)) := by
    rw [accRows, accRows, ← accFrom_append, List.take_append_drop]
  obtain ⟨t, ht⟩ := accFrom_prefix (accRows (l.take (i + 1))) (l.drop (i + 1))
  rw [h2, ht, h1]
  simp

end Go.Proofs.Qxb6616044aFmt
