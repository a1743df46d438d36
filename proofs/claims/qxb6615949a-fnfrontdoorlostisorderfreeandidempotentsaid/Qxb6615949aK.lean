import Derived.Test.Qxb6615949aM
import Derived.Test.Qxb6615949aE
namespace Go.Proofs.Qxb6615949a
open Go.RowKit

/-! ### How many different ones there are: no Go in sight -/
theorem mem_addKey {acc : List Lit} {x k : Lit} (hx : WideAt.IsKeyLit x) : k ∈ Maps.addKey acc x ↔ k ∈ acc ∨ k = x := by
  unfold Maps.addKey
  split
  · rename_i h
    obtain ⟨y, hy, hs⟩ := List.any_eq_true.1 h
    have e : y = x := WideAt.sameKey_eq hs
    subst e
    exact ⟨.inl, fun h => h.elim id (fun e => e ▸ hy)⟩
  · simp

theorem any_sameKey {acc : List Lit} {x : Lit} (hx : WideAt.IsKeyLit x) : acc.any (fun y => y.sameKey x) = true ↔ x ∈ acc := by
  rw [List.any_eq_true]
  constructor
  · rintro ⟨y, hy, hs⟩
    exact WideAt.sameKey_eq hs ▸ hy
  · intro h
    exact ⟨x, h, WideAt.sameKey_self hx⟩

theorem mem_foldKey (L : List Lit) : ∀ (acc : List Lit) (k : Lit), (∀ x ∈ L, WideAt.IsKeyLit x) → (k ∈ L.foldl Maps.addKey acc ↔ k ∈ acc ∨ k ∈ L) := by
  induction L with
  | nil => intro acc k _; simp
  | cons x r ih =>
    intro acc k h
    rw [List.foldl_cons, ih _ _ (fun y hy => h y (by simp [hy])), mem_addKey (h x (by simp)), List.mem_cons, or_assoc]

theorem nodup_foldKey (L : List Lit) : ∀ (acc : List Lit), (∀ x ∈ L, WideAt.IsKeyLit x) → acc.Nodup → (L.foldl Maps.addKey acc).Nodup := by
  induction L with
  | nil => intro acc _ h; exact h
  | cons x r ih =>
    intro acc h hn
    refine ih _ (fun y hy => h y (by simp [hy])) ?_
    unfold Maps.addKey
    split
    · exact hn
    · rename_i hx
      rw [List.nodup_append]
      refine ⟨hn, by simp, fun a ha b hb => ?_⟩
      simp at hb
      subst hb
      rintro rfl
      exact hx ((any_sameKey (h a (by simp))).2 ha)

/-- Two lists without repeats over the same members are of one length. -/
theorem length_le_of_sub : ∀ (l m : List Lit), l.Nodup → (∀ a ∈ l, a ∈ m) → l.length ≤ m.length := by
  intro l
  induction l with
  | nil => intro m _ _; exact Nat.zero_le _
  | cons x r ih =>
    intro m hn hs
    obtain ⟨m1, m2, rfl⟩ := List.append_of_mem (hs x (by simp))
    have hx : x ∉ r := (List.nodup_cons.1 hn).1
    have := ih (m1 ++ m2) (List.nodup_cons.1 hn).2 (fun a ha => by
      have h := hs a (by simp [ha])
      have hne : a ≠ x := fun e => hx (e ▸ ha)
      simp [hne] at h
      simpa using h)
    simp at this ⊢
    omega

theorem distinct_congr {L M : List ByteArray} (h : ∀ s, s ∈ L ↔ s ∈ M) : distinct L = distinct M := by
  have key : ∀ {L M : List ByteArray}, (∀ s, s ∈ L → s ∈ M) → distinct L ≤ distinct M := by
    intro L M h
    refine length_le_of_sub _ _ (nodup_foldKey _ _ (keys_lit L) List.nodup_nil) (fun a ha => ?_)
    rw [mem_foldKey _ _ _ (keys_lit _)] at ha ⊢
    rcases ha with ha | ha
    · cases ha
    · obtain ⟨s, hs, rfl⟩ := List.mem_map.1 ha
      exact .inr (List.mem_map.2 ⟨s, h s hs, rfl⟩)
  exact Nat.le_antisymm (key (fun s => (h s).1)) (key (fun s => (h s).2))

theorem distinct_snoc_new {L : List ByteArray} {s : ByteArray} (h : s ∉ L) : distinct (L ++ [s]) = distinct L + 1 := by
  unfold distinct
  rw [List.map_append, List.foldl_append, List.map_cons, List.map_nil, List.foldl_cons, List.foldl_nil, Maps.addKey, if_neg]
  · simp
  · rw [any_sameKey (strKey_lit s), mem_foldKey _ _ _ (keys_lit L)]
    rintro (h' | h')
    · cases h'
    · obtain ⟨t, ht, e⟩ := List.mem_map.1 h'
      exact h (strKey_inj e ▸ ht)
theorem distinct_snoc_old {L : List ByteArray} {s : ByteArray} (h : s ∈ L) : distinct (L ++ [s]) = distinct L :=
  distinct_congr (fun t => by simp; exact fun e => e ▸ h)

theorem distinct_le (L : List ByteArray) : ∀ k, distinct (L.take k) ≤ k := by
  intro k
  induction k with
  | zero => simp [distinct]
  | succ k ih =>
    by_cases hk : k < L.length
    · rw [take_snoc _ _ hk]
      by_cases h : L[k] ∈ L.take k
      · rw [distinct_snoc_old h]; omega
      · rw [distinct_snoc_new h]; omega
    · rw [List.take_of_length_le (by omega)] at ih ⊢
      omega

end Go.Proofs.Qxb6615949a
