import Derived.Test.Qxb6616159aJ
import Derived.Test.Qxb6616159aV
namespace Go.Proofs.Qxb6616159a
open Go.ChangeShapes Go.WideShapes Go.ChangeAt Go.RowKit Go.Joins
open Go.ChangeMaps (open_string shut_string)

/-- The item that came in. -/
theorem it_view {H : Type} {enc : TypeId × Value → H} {W : World} {r : Reach} {base : Nat} {v : Value} {d : DataW H} {p : List MemPlace} (hv : Value.okWide Try.prog W r base 26 v) (h : DataW.Trod enc Try.prog W 0 (fun _ => true) true 26 v d p) : ∃ x : It, v = x.val := by
  obtain ⟨cs, rfl, hsz⟩ := okWide_struct Try.underlying26 hv
  rw [Try.cells26] at hsz
  obtain ⟨n, h⟩ := h
  obtain ⟨x, e⟩ := open_it h (by show cs.toList.length = 6; simpa using hsz)
  have e' : cs.toList = x.cells := e
  refine ⟨x, ?_⟩
  show Value.agg cs = Value.agg x.cells.toArray
  rw [← e']

set_option maxRecDepth 100000 in
theorem lifted4 (os : Os) (started : os.Started) (H : Type) (enc : TypeId × Value → H) :
    ReturnsInHanded {} Try.checked os 4 .any (Rows.fnImportsOneInsertedAnywhereSpec.pre6 enc Try.prog Try.f4 Rows.fnImportsOneInsertedAnywhereRow.domain false) (Rows.fnImportsOneInsertedAnywhereSpec.post enc Try.prog Try.f4 false true false false) := by
  refine returnsInHanded_of_change_sized (C := Try.checked) Try.own started (by kernel_rfl) Try.func4
    (ChangeSpec.witness6 (enc := enc) (C := Try.checked) false ⟨#[], #[.slice none 0 0, .int .i64 0, It.zero.val], []⟩ 8 (by kernel_rfl) (by kernel_rfl) (by kernel_rfl) (by kernel_rfl)) ?_
  intro W base args ds gs before hval0 hW hcnd hsz0 _
  have hval : ∀ (j : Nat) t v, Try.f4.params[j]? = some t → args[j]? = some v → Value.okWide Try.prog W .any base t v := hval0
  have hW' := hW
  obtain ⟨p, q, hA0, hV, rfl, hfz, hnd⟩ := hW
  have hA : DataW.TrodAll enc Try.prog W 0 (fun _ => true) true Try.f4.params.toList args.toList ds p := hA0
  rw [Try.params4] at hA hval
  obtain ⟨v0, v1, v2, d0, d1, d2, p0, p1, p2, rfl, rfl, rfl, h0, h1, h2⟩ := trodAll_three hA
  obtain ⟨rfl, rfl⟩ := trodVars_none hV
  obtain ⟨k, rfl, rfl, rfl, wk⟩ := open_int Try.underlying3 (hval 1 3 v1 rfl rfl) h1
  obtain ⟨x, rfl⟩ := it_view (hval 2 26 v2 rfl rfl) h2
  have lt : ∀ {t : TypeId} {v : Value} {d : DataW H} {ps : List MemPlace}, DataW.Trod enc Try.prog W 0 (fun _ => true) true t v d ps → ∀ x ∈ ps, x.block < W.heap.size := by
    intro t v d ps h
    obtain ⟨m, hm⟩ := h
    exact DataW.trod_lt m _ _ _ hm
  obtain ⟨a', l', c', rfl⟩ := okWide_slice Try.underlying22 (hval 0 22 v0 rfl rfl)
  obtain ⟨a, xs, c, ev, hI, hcap, _, hnone⟩ := items_view h0 rfl
  obtain ⟨rfl, rfl, rfl⟩ : a = a' ∧ l' = xs.length ∧ c = c' := by simpa [eq_comm] using ev
  clear hA0 hval0
  refine (law4_any a c xs k x W hI hcap hnone).mono fun e W' ⟨he, bel⟩ => ?_
  subst he
  exact ⟨_, rfl, _, _, _, [], _, [], hW', trodAll_mk1 (shut_bool Try.underlying4 _), trodAll_mk3 (Below.trod Try.laidOut (by kernel_rfl) (of_decide_eq_true (by kernel_rfl)) h0 bel (lt h0)) (shut_int Try.underlying3 wk) (Below.trod Try.laidOut (by kernel_rfl) (of_decide_eq_true (by kernel_rfl)) h2 bel (lt h2)), rfl, bel.frame _, fun h => by cases h⟩

theorem over4 : Rows.fnImportsOneInsertedAnywhereRow.holds Try.pinned (OpenSpec.ofChange Rows.fnImportsOneInsertedAnywhereSpec) :=
  OpenClaim.holds_of_wide 4 Try.f4 rfl rfl rfl rfl rfl rfl rfl ⟨rfl, rfl, rfl, rfl, rfl⟩ rfl rfl rfl rfl rfl (by kernel_rfl) Try.func4 (by kernel_rfl)
    (of_decide_eq_true (by kernel_rfl)) (by unfold Func.isWrapper; first | (rw [if_pos (by decide +kernel)]; kernel_rfl) | (rw [if_neg (by decide +kernel)]; exact ⟨rfl, rfl⟩))
    (fun os started H enc _ => lifted4 os started H enc)

/-- The statement. -/
theorem inserted_holds : Rows.FnImportsOneInsertedAnywhereSaid := over4
#print axioms inserted_holds

end Go.Proofs.Qxb6616159a
