import Derived.Test.Qxb6616044aFmtT
namespace Go.Proofs.Qxb6616044aFmt
open Go.ChangeShapes Go.WideShapes Go.ChangeAt Go.RowKit Go.Joins
open Go.ChangeMaps (open_string shut_string)
open Go.Extern.Stop Go.Stop Go.Extern
set_option linter.unusedSimpArgs false

set_option maxHeartbeats 1600000 in
set_option maxRecDepth 100000 in
theorem lifted3 (os : Os) (started : os.Started) (H : Type) (enc : TypeId × Value → H) :
    ReturnsInTold none {} Tryf.checked os 3 .any Input.okWide ((OpenSpec.ofChange Rows.fnPutKeepsTheFirstRowOfEachClassAndItemSpec).preRow enc Tryf.prog Tryf.f3 [] false []) (fun F => ((OpenSpec.ofChange Rows.fnPutKeepsTheFirstRowOfEachClassAndItemSpec).at F).post enc Tryf.prog Tryf.f3 false true false false) (aloneAtReturn Tryf.prog) nothingAlways := by
  refine returnsInTold_of_row (C := Tryf.checked) (s := OpenSpec.ofChange Rows.fnPutKeepsTheFirstRowOfEachClassAndItemSpec) (by kernel_rfl) Tryf.own started (by kernel_rfl) Tryf.func3
    (OpenSpec.witness_stopped_at (enc := enc) (C := Tryf.checked) false (World.laidAll Tryf.prog os []) #[.string ByteArray.empty, .map none, .slice none 0 0, .slice none 0 0, .string ByteArray.empty, .string ByteArray.empty] (World.laidAll_os _ _ _) (by kernel_rfl) (by kernel_rfl) (by kernel_rfl)
      (OpenSpec.preRow_of_B rfl 8 (by kernel_rfl) (by kernel_rfl) (laidMet_laidAll _ (by kernel_rfl) (by kernel_rfl)))) ?_
  intro F W base0 args ds gs before _ hF hval0 hW _ _ hsz0 hL _
  have hval : ∀ (j : Nat) t v, Tryf.f3.params[j]? = some t → args[j]? = some v → Value.okWide Tryf.prog W .any base0 t v := hval0
  have hsz : (DataW.weightsEach Tryf.prog (Tryf.f3.params.toList ++ (OpenSpec.ofChange Rows.fnPutKeepsTheFirstRowOfEachClassAndItemSpec).bare.plain.varTypes Tryf.prog) (ds ++ gs)).all (· ≤ reachBytes) = true := hsz0
  have hW' := hW
  obtain ⟨p, q, hA0, hV, rfl, hfz, hnd⟩ := hW
  have hA : DataW.TrodAll enc Tryf.prog W 0 (fun _ => true) true Tryf.f3.params.toList args.toList ds p := hA0
  rw [Tryf.params3] at hA hval hsz
  obtain ⟨v0, vs0, d0, ds0, p0, q0, ea0, rfl, rfl, h0, hA⟩ := trodAll_cons hA
  obtain ⟨v1, vs1, d1, ds1, p1, q1, rfl, rfl, rfl, h1, hA⟩ := trodAll_cons hA
  obtain ⟨v2, vs2, d2, ds2, p2, q2, rfl, rfl, rfl, h2, hA⟩ := trodAll_cons hA
  obtain ⟨v3, vs3, d3, ds3, p3, q3, rfl, rfl, rfl, h3, hA⟩ := trodAll_cons hA
  obtain ⟨v4, vs4, d4, ds4, p4, q4, rfl, rfl, rfl, h4, hA⟩ := trodAll_cons hA
  obtain ⟨v5, vs5, d5, ds5, p5, q5, rfl, rfl, rfl, h5, hA⟩ := trodAll_cons hA
  obtain ⟨rfl, rfl, rfl⟩ := trodAll_nil hA
  obtain rfl : args = #[v0, v1, v2, v3, v4, v5] := by cases args; simp_all
  obtain ⟨rfl, rfl⟩ := trodVars_none hV
  have hrb : reachBytes ≤ 140737488355328 := by unfold reachBytes; omega
  have hz0 : ∀ k ∈ DataW.weights Tryf.prog 9 d0, k ≤ reachBytes := fun k hk => by
    have := List.all_eq_true.1 hsz _ (DataW.weights_mem_each (j := 0) (t := 9) (d := d0) rfl rfl k hk)
    simpa using this
  have hz3 : ∀ k ∈ DataW.weights Tryf.prog 24 d3, k ≤ reachBytes := fun k hk => by
    have := List.all_eq_true.1 hsz _ (DataW.weights_mem_each (j := 3) (t := 24) (d := d3) rfl rfl k hk)
    simpa using this
  obtain ⟨fund, rfl, rfl, rfl, wx⟩ := open_string Tryf.underlying9 (hval 0 9 v0 rfl rfl) h0
  have hfund : fund.size ≤ 140737488355328 := Nat.le_trans (hz0 fund.size (by simp [DataW.weights])) hrb
  obtain ⟨pc, rfl, rfl, rfl, wpc⟩ := open_string Tryf.underlying9 (hval 4 9 v4 rfl rfl) h4
  obtain ⟨pi, rfl, rfl, rfl, wpi⟩ := open_string Tryf.underlying9 (hval 5 9 v5 rfl rfl) h5
  obtain ⟨m, rfl⟩ := okWide_map Tryf.underlying22 (hval 1 22 v1 rfl rfl)
  obtain ⟨m', f, em, hcols⟩ := cols_view h1 rfl
  obtain rfl : m = m' := by simpa using em
  obtain ⟨a', l', c', rfl⟩ := okWide_slice Tryf.underlying23 (hval 2 23 v2 rfl rfl)
  obtain ⟨la, ls, lc, ev, hI⟩ := ints_view h2 rfl
  obtain ⟨rfl, rfl, rfl⟩ : la = a' ∧ l' = ls.length ∧ lc = c' := by simpa [eq_comm] using ev
  obtain ⟨a', l', c', rfl⟩ := okWide_slice Tryf.underlying24 (hval 3 24 v3 rfl rfl)
  obtain ⟨fa, rs, fc, ev, hRs, hzs⟩ := rows_view h3 rfl hz3
  obtain ⟨rfl, rfl, rfl⟩ : fa = a' ∧ l' = rs.length ∧ fc = c' := by simpa [eq_comm] using ev
  have lt : ∀ {t : TypeId} {v : Value} {d : DataW H} {ps : List MemPlace}, DataW.Trod enc Tryf.prog W 0 (fun _ => true) true t v d ps → ∀ x ∈ ps, x.block < W.heap.size := by
    intro t v d ps h
    obtain ⟨m, hm⟩ := h
    exact DataW.trod_lt m _ _ _ hm
  clear hA0 hval0
  refine (law3_any (H := H) F.told fund m f la fa lc fc ls rs pc pi W hF hcols hI hRs hzs hfund wpc wpi).mono fun e W' ⟨he, bel⟩ => ?_
  subst he
  refine ⟨_, rfl, _, _, _, [], _, [], hW', trodAll_mk1 (shut_bool Tryf.under4 _), trodAll_cons_mk (shut_string Tryf.underlying9 wx) (trodAll_cons_mk (Below.trod Tryf.laidOutP (by kernel_rfl) (of_decide_eq_true (by kernel_rfl)) h1 bel (lt h1)) (trodAll_cons_mk (Below.trod Tryf.laidOutP (by kernel_rfl) (of_decide_eq_true (by kernel_rfl)) h2 bel (lt h2)) (trodAll_cons_mk (Below.trod Tryf.laidOutP (by kernel_rfl) (of_decide_eq_true (by kernel_rfl)) h3 bel (lt h3)) (trodAll_mk2 (shut_string Tryf.underlying9 wpc) (shut_string Tryf.underlying9 wpi))))), rfl, bel.frame _, fun h => by cases h⟩

/-- The statement. -/
theorem putKeeps_holds : Rows.FnPutKeepsTheFirstRowOfEachClassAndItemToldSaid :=
  Claim7.holds_of_told_any 3 Tryf.f3 "fmt.errorf" [] [] _ _ _ (by kernel_rfl) rfl rfl rfl Tryf.laidOutP (by kernel_rfl) rfl ⟨rfl, rfl, rfl, rfl, rfl, rfl, rfl⟩ rfl rfl (by kernel_rfl) (by kernel_rfl) Tryf.func3 (by kernel_rfl)
    (of_decide_eq_true (by kernel_rfl)) (of_decide_eq_true (by kernel_rfl)) Tryf.stops.symm rfl Tryf.stopKnobs.symm (by kernel_rfl)
    (by kernel_rfl) (by kernel_rfl) (by kernel_rfl) (by kernel_rfl) (by kernel_rfl) (by kernel_rfl) (by kernel_rfl) (by kernel_rfl) (by kernel_rfl) rfl (by kernel_rfl) rfl rfl
    rfl rfl
    rfl (by kernel_rfl) (by kernel_rfl) (by kernel_rfl) (by decide) (by kernel_rfl)
    (OpenClaim.moreEntering_of (by kernel_rfl) (by kernel_rfl) (by kernel_rfl) (by kernel_rfl) (by kernel_rfl) (by kernel_rfl) (by kernel_rfl) (by kernel_rfl) (by kernel_rfl) (by kernel_rfl))
    ⟨_, WideRow.started_initial, Tryf.quiet _⟩
    (fun os started _ H enc _ => lifted3 os started H enc)
#print axioms putKeeps_holds

end Go.Proofs.Qxb6616044aFmt
