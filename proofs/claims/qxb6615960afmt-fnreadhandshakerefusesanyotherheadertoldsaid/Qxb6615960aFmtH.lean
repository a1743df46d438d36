import Derived.Test.Qxb6615960aFmtG
import Derived.Test.Qxb6615960aFmtTie
import Derived.Test.Qxb6615960aFmtCards
import Derived.ProofKit
import Derived.OpenShut
import Derived.ChangeSlices
import Derived.SizedLaws
import Derived.Lib.SmallJoins
import Derived.SevenTiedAt
import Derived.Stop.JoinedTold
import Derived.Lay
namespace Go.Proofs.Qxb6615960aFmt
open Go.ChangeShapes Go.WideShapes Go.ChangeAt Go.RowKit Go.Joins
set_option linter.unusedSimpArgs false

theorem Tryf.own : ownKnob Tryf.prog.godebug = none := by kernel_rfl
theorem Tryf.laidOut : laidOutB Tryf.pinned.checked.prog = true := by kernel_rfl
theorem Tryf.cells5 : Tryf.prog.cellsOf 5 = 1 := by kernel_rfl
theorem Tryf.cells41 : Tryf.prog.cellsOf 41 = 8 := by kernel_rfl
theorem Tryf.cells42 : Tryf.prog.cellsOf 42 = 20 := by kernel_rfl
theorem Tryf.bytes5 : Tryf.prog.bytesOf 5 = 1 := by kernel_rfl
theorem Tryf.underU8 : Tryf.prog.underlying 5 = some (.int .u8) := by kernel_rfl

theorem byte_of_wf {n : Int} (h : (Lit.int .u8 n).wf = true) : n = ((UInt8.ofNat n.toNat).toNat : Int) := by
  have h0 : IntKind.u8.min = 0 := rfl
  have h1 : IntKind.u8.max = 255 := rfl
  simp only [Lit.wf, h0, h1, Bool.and_eq_true, decide_eq_true_eq] at h
  rw [UInt8.toNat_ofNat_of_lt' (by show n.toNat < 256; omega)]
  omega

set_option maxRecDepth 100000 in
/-- An array of bytes that came in. -/
theorem bytes_view {H : Type} {enc : TypeId × Value → H} {W : World} {base b0 t n : Nat} {v : Value} {d : DataW H} {p : List MemPlace} (hu : Tryf.prog.underlying t = some (.array n 5)) (hc : Tryf.prog.cellsOf t = n)
    (hv : Value.okWide Tryf.prog W .any b0 t v) (h : DataW.Trod enc Tryf.prog W base (fun _ => true) true t v d p) : ∃ R : List UInt8, v = .agg (bs R).toArray ∧ R.length = n := by
  simp only [Value.okWide, hu] at hv
  obtain ⟨cs, rfl, h2, _⟩ := hv
  obtain ⟨fuel, hf⟩ := h
  obtain ⟨xs, m, _, _, hl, hx, he⟩ := DataW.trod_array hu hf
  have hcs : cs.toList.length = n := by rw [← hc, ← hl]; rfl
  have each : ∀ i, (hi : i < n) → ∃ b : UInt8, cs.toList[i]? = some (.int .u8 b.toNat) := by
    intro i hi
    have hy := he i hi
    rw [List.getElem?_eq_getElem (by omega)] at hy
    obtain ⟨a, ea, _, wa⟩ := DataW.trod_int Tryf.underU8 hy
    rw [Tryf.cells5, Nat.mul_one] at ea
    have ea' : (cs.toList.drop i).take 1 = [.int .u8 a] := ea
    rw [List.drop_eq_getElem_cons (by omega), List.take_succ_cons, List.take_zero] at ea'
    refine ⟨UInt8.ofNat a.toNat, ?_⟩
    rw [List.getElem?_eq_getElem (by omega), ← byte_of_wf wa]
    exact congrArg some (List.cons.inj ea').1
  refine ⟨cs.toList.map fun v => match v with | .int _ a => UInt8.ofNat a.toNat | _ => 0, ?_, by rw [List.length_map, hcs]⟩
  have e : bs (cs.toList.map fun v => match v with | .int _ a => UInt8.ofNat a.toNat | _ => 0) = cs.toList := by
    apply List.ext_getElem?
    intro i
    rw [bs, List.map_map, List.getElem?_map]
    by_cases hi : i < n
    · obtain ⟨b, hb⟩ := each i hi
      rw [hb]
      simp
    · rw [List.getElem?_eq_none (by omega)]
      rfl
  rw [e]

/-- A slice of bytes that came in. -/
theorem slice_view {H : Type} {enc : TypeId × Value → H} {W : World} {v : Value} {d : DataW H} {p : List MemPlace} (h : DataW.Trod enc Tryf.prog W 0 (fun _ => true) true 22 v d p) (h1 : v.cells.toList = [v])
    (hz : ∀ k ∈ DataW.weights Tryf.prog 22 d, k ≤ reachBytes) : ∃ a T c, v = .slice a T.length c ∧ BytesAt W a T ∧ (a = none → T = [] ∧ c = 0) ∧ T.length ≤ 140737488351232 := by
  obtain ⟨n, h⟩ := h
  rw [h1] at h
  rcases open_ints Tryf.underlying22 Tryf.underU8 Tryf.cells5 h with ⟨hcs, hx⟩ | ⟨a, len, cap, zs, hcs, _, hl, hm, hlen, hx, hcell, hws⟩
  · simp at hcs
    subst hcs
    exact ⟨none, [], 0, rfl, fun i hi => by simp at hi, fun _ => ⟨rfl, rfl⟩, by simp⟩
  · simp at hcs
    subst hcs
    simp only [if_true] at hlen
    obtain ⟨rfl, rfl⟩ := Prod.mk.inj hx
    have hl2 : ((zs.take len).map fun z => UInt8.ofNat z.toNat).length = len := by rw [List.length_map, List.length_take]; omega
    have hb := hz ((len + (cap - len)) * 1) (by
      simp only [DataW.weights, Tryf.underlying22, Tryf.bytes5]
      refine List.mem_cons.2 (.inl ?_)
      simp [lits]
      omega)
    refine ⟨some a, (zs.take len).map fun z => UInt8.ofNat z.toNat, cap, by rw [hl2], ?_, by simp, by rw [hl2]; unfold reachBytes at hb; omega⟩
    intro i hi
    rw [hl2] at hi
    have hsp : a.spot = none := by simpa [Addr.add] using World.cell?_spot (hcell 0 (by omega))
    obtain ⟨b, off, spot⟩ := a
    simp only at hsp
    subst hsp
    refine ⟨b, off, rfl, ?_⟩
    have hc := hcell i (by omega)
    rw [Addr.add_mid] at hc
    rw [hc]
    have hi' : i < zs.length := by omega
    have := byte_of_wf (hws (zs.getD i 0) (by rw [List.getD_eq_getElem?_getD, List.getElem?_eq_getElem hi']; exact List.getElem_mem ..))
    congr 2
    rw [this]
    simp [List.getD_eq_getElem?_getD, List.getElem?_take_of_lt hi, hi']

theorem laid_met (os : Os) (args : Array Value) : laidMet Tryf.prog Rows.fnReadHandshakeRefusesAnyOtherHeaderRow.laid ((World.laidAll Tryf.prog os Rows.fnReadHandshakeRefusesAnyOtherHeaderRow.laid).forCall (fun _ _ => 0) ⟨#[], args, []⟩).memory :=
  laidMet_laidAll _ (by kernel_rfl) (by kernel_rfl)

theorem Tryf.stops : Tryf.pinned.checked.prog.stops = ["fmt.errorf"] := by kernel_rfl
theorem Tryf.stopKnobs : Tryf.pinned.checked.prog.stopKnobs = [] := by kernel_rfl
theorem Tryf.quiet (os : Os) : Stop.quiet Tryf.pinned.checked.prog os := by
  intro k hk
  rw [Tryf.stopKnobs] at hk
  cases hk
theorem Tryf.under3 : Tryf.prog.underlying 3 = some (.int .i64) := by kernel_rfl
theorem Tryf.under4 : Tryf.prog.underlying 4 = some .bool := by kernel_rfl

set_option maxHeartbeats 1600000 in
set_option maxRecDepth 100000 in
theorem lifted (os : Os) (started : os.Started) (H : Type) (enc : TypeId × Value → H) :
    ReturnsInTold none {} Tryf.checked os 6 .any Input.okWide ((OpenSpec.ofChange Rows.fnReadHandshakeRefusesAnyOtherHeaderSpec).preRow enc Tryf.prog Tryf.f6 [] false Rows.fnReadHandshakeRefusesAnyOtherHeaderRow.laid) (fun F => ((OpenSpec.ofChange Rows.fnReadHandshakeRefusesAnyOtherHeaderSpec).at F).post enc Tryf.prog Tryf.f6 false true false false) (aloneAtReturn Tryf.prog) nothingAlways := by
  refine returnsInTold_of_row (C := Tryf.checked) (s := OpenSpec.ofChange Rows.fnReadHandshakeRefusesAnyOtherHeaderSpec) (by kernel_rfl) Tryf.own started (by kernel_rfl) Tryf.func6
    (OpenSpec.witness_stopped_at (enc := enc) (C := Tryf.checked) false (World.laidAll Tryf.prog os Rows.fnReadHandshakeRefusesAnyOtherHeaderRow.laid) #[.agg (bs (zs 8)).toArray, .agg (bs (zs 20)).toArray, .agg (bs (zs 20)).toArray, .slice none 0 0, .int .i64 0, .int .u8 0] (World.laidAll_os _ _ _) (by kernel_rfl) (by kernel_rfl) (by kernel_rfl)
      (OpenSpec.preRow_of_B rfl 8 (by kernel_rfl) (by kernel_rfl) (laid_met os _))) ?_
  intro F W base0 args ds gs before _ hF hval0 hW _ _ hsz0 hL _
  have hval : ∀ (j : Nat) t v, Tryf.f6.params[j]? = some t → args[j]? = some v → Value.okWide Tryf.prog W .any base0 t v := hval0
  have hsz : (DataW.weightsEach Tryf.prog (Tryf.f6.params.toList ++ (OpenSpec.ofChange Rows.fnReadHandshakeRefusesAnyOtherHeaderSpec).bare.plain.varTypes Tryf.prog) (ds ++ gs)).all (· ≤ reachBytes) = true := hsz0
  have hW' := hW
  obtain ⟨p, q, hA0, hV, rfl, hfz, hnd⟩ := hW
  have hA : DataW.TrodAll enc Tryf.prog W 0 (fun _ => true) true Tryf.f6.params.toList args.toList ds p := hA0
  rw [Tryf.params6] at hA hval hsz
  obtain ⟨v0, vs0, d0, ds0, p0, q0, ea0, rfl, rfl, h0, hA⟩ := trodAll_cons hA
  obtain ⟨v1, vs1, d1, ds1, p1, q1, rfl, rfl, rfl, h1, hA⟩ := trodAll_cons hA
  obtain ⟨v2, vs2, d2, ds2, p2, q2, rfl, rfl, rfl, h2, hA⟩ := trodAll_cons hA
  obtain ⟨v3, vs3, d3, ds3, p3, q3, rfl, rfl, rfl, h3, hA⟩ := trodAll_cons hA
  obtain ⟨v4, vs4, d4, ds4, p4, q4, rfl, rfl, rfl, h4, hA⟩ := trodAll_cons hA
  obtain ⟨v5, vs5, d5, ds5, p5, q5, rfl, rfl, rfl, h5, hA⟩ := trodAll_cons hA
  obtain ⟨rfl, rfl, rfl⟩ := trodAll_nil hA
  obtain rfl : args = #[v0, v1, v2, v3, v4, v5] := by cases args; simp_all
  obtain ⟨rfl, rfl⟩ := trodVars_none hV
  obtain ⟨R, rfl, hR⟩ := bytes_view (n := 8) Tryf.underlying41 Tryf.cells41 (hval 0 41 v0 rfl rfl) h0
  obtain ⟨I, rfl, hI⟩ := bytes_view (n := 20) Tryf.underlying42 Tryf.cells42 (hval 1 42 v1 rfl rfl) h1
  obtain ⟨Q, rfl, hQ⟩ := bytes_view (n := 20) Tryf.underlying42 Tryf.cells42 (hval 2 42 v2 rfl rfl) h2
  have hz3 : ∀ k ∈ DataW.weights Tryf.prog 22 d3, k ≤ reachBytes := fun k hk => by
    have := List.all_eq_true.1 hsz _ (DataW.weights_mem_each (j := 3) (t := 22) (d := d3) rfl rfl k hk)
    simpa using this
  obtain ⟨a', l', c', rfl⟩ := okWide_slice Tryf.underlying22 (hval 3 22 v3 rfl rfl)
  obtain ⟨a, T, c, ev, hT, ha, hn⟩ := slice_view h3 rfl hz3
  obtain ⟨rfl, rfl, rfl⟩ : a = a' ∧ l' = T.length ∧ c = c' := by simpa [eq_comm] using ev
  obtain ⟨k, rfl, rfl, rfl, wk⟩ := open_int Tryf.under3 (hval 4 3 v4 rfl rfl) h4
  obtain ⟨f, rfl, rfl, rfl, wf⟩ := open_int Tryf.underU8 (hval 5 5 v5 rfl rfl) h5
  have lt : ∀ {t : TypeId} {v : Value} {d : DataW H} {ps : List MemPlace}, DataW.Trod enc Tryf.prog W 0 (fun _ => true) true t v d ps → ∀ x ∈ ps, x.block < W.heap.size := by
    intro t v d ps h
    obtain ⟨m, hm⟩ := h
    exact DataW.trod_lt m _ _ _ hm
  clear hA0 hval0
  have hf := byte_of_wf wf
  have law := law_any R I Q T a c k (UInt8.ofNat f.toNat) W hR hI hQ hT ha hn
  rw [← hf] at law
  refine law.mono fun e W' ⟨he, bel⟩ => ?_
  subst he
  refine ⟨_, rfl, _, _, _, [], _, [], hW', trodAll_mk1 (shut_bool Tryf.under4 _), trodAll_cons_mk (Below.trod Tryf.laidOut (by kernel_rfl) (of_decide_eq_true (by kernel_rfl)) h0 bel (lt h0)) (trodAll_cons_mk (Below.trod Tryf.laidOut (by kernel_rfl) (of_decide_eq_true (by kernel_rfl)) h1 bel (lt h1)) (trodAll_cons_mk (Below.trod Tryf.laidOut (by kernel_rfl) (of_decide_eq_true (by kernel_rfl)) h2 bel (lt h2)) (trodAll_cons_mk (Below.trod Tryf.laidOut (by kernel_rfl) (of_decide_eq_true (by kernel_rfl)) h3 bel (lt h3)) (trodAll_mk2 (shut_int Tryf.under3 wk) (shut_int Tryf.underU8 wf))))), rfl, bel.frame _, fun h => by cases h⟩

/-- The statement. -/
theorem refusesAnyOtherHeader_holds : Rows.FnReadHandshakeRefusesAnyOtherHeaderToldSaid :=
  Claim7.holds_of_told_tied_any_at .later 6 Tryf.f6 "fmt.errorf" [] [] _ _ _ _ _ (by kernel_rfl) rfl rfl rfl Tryf.laidOut (by kernel_rfl) rfl ⟨rfl, rfl, rfl, rfl, rfl, rfl, rfl⟩ rfl rfl (by kernel_rfl) (by kernel_rfl) Tryf.func6 (by kernel_rfl)
    (of_decide_eq_true (by kernel_rfl)) (of_decide_eq_true (by kernel_rfl)) Tryf.stops.symm rfl Tryf.stopKnobs.symm (by kernel_rfl)
    (by kernel_rfl) (by kernel_rfl) (by kernel_rfl) (by kernel_rfl) (by kernel_rfl) (by kernel_rfl) (by kernel_rfl) (by kernel_rfl) (by kernel_rfl) rfl (by kernel_rfl) rfl rfl
    rfl rfl
    rfl (by kernel_rfl) (by kernel_rfl) (by kernel_rfl) (by decide) (by kernel_rfl) fnReadHandshakeRefusesAnyOtherHeader_row_tie
    (OpenClaim.moreEntering_of (by kernel_rfl) (by kernel_rfl) (by kernel_rfl) (by kernel_rfl) (by kernel_rfl) (by kernel_rfl) (by kernel_rfl) (by kernel_rfl) (by kernel_rfl) (by kernel_rfl))
    ⟨_, WideRow.started_initial, Tryf.quiet _⟩
    (fun os started _ H enc _ => lifted os started H enc)
#print axioms refusesAnyOtherHeader_holds

end Go.Proofs.Qxb6615960aFmt
