import Derived.Test.Qxb6615949aQ
import Derived.ProofKit
import Derived.OpenShut
import Derived.ShutString
import Derived.ChangeOld
import Derived.SliceStrings
import Derived.SizedLaws
import Derived.Lib.SmallJoins
namespace Go.Proofs.Qxb6615949a
open Go.ChangeShapes Go.WideShapes Go.ChangeAt Go.RowKit Go.Joins
open Go.ChangeMaps (open_string shut_string)

theorem Try.own : ownKnob Try.prog.godebug = none := by kernel_rfl
theorem Try.laidOut : laidOutB Try.prog = true := by kernel_rfl
theorem Try.cells9 : Try.prog.cellsOf 9 = 1 := by kernel_rfl
theorem Try.cells38 : Try.prog.cellsOf 38 = 3 := by kernel_rfl
theorem Try.bytes9 : Try.prog.bytesOf 9 = 16 := by kernel_rfl

/-- What the walk is told of a slice of strings that came in. -/
def SView (W : World) (v : Value) (a : Option Addr) (s : List ByteArray) (c : Nat) : Prop :=
  v = .slice a s.length c ∧ Strs W a s ∧ s.length * 16 ≤ 140737488351232 ∧ (a = none → s = [] ∧ c = 0) ∧ ∀ t ∈ s, t.size ≤ maxLen

theorem strs_view {H : Type} {enc : TypeId × Value → H} {W : World} {n : Nat} {v : Value} {y : DataW H × List MemPlace} (h : DataW.trod enc Try.prog W 0 (fun _ => true) true n 36 [v] = some y)
    (hz : ∀ k ∈ DataW.weights Try.prog 36 y.1, k ≤ reachBytes) : ∃ a s c, SView W v a s c := by
  rcases open_strings Try.underlying36 Try.underlying9 Try.cells9 h with ⟨hcs, hx⟩ | ⟨a, len, cap, ss, hcs, _, hl, hm, hlen, hx, hcell, hws⟩
  · simp at hcs
    subst hcs
    exact ⟨none, [], 0, rfl, fun i hi => by simp at hi, by simp, fun _ => ⟨rfl, rfl⟩, by simp⟩
  · simp at hcs
    subst hcs
    simp only [if_true] at hlen
    have hl2 : (ss.take len).length = len := by rw [List.length_take]; omega
    have hb := hz ((len + (cap - len)) * 16) (by
      rw [hx]
      simp only [DataW.weights, Try.underlying36, Try.bytes9]
      refine List.mem_cons.2 (.inl ?_)
      simp [strs]
      omega)
    refine ⟨some a, ss.take len, cap, by rw [hl2], ?_, by rw [hl2]; unfold reachBytes at hb; omega, by simp, fun t ht => hws t (List.mem_of_mem_take ht)⟩
    intro i hi
    rw [hl2] at hi
    have hsp : a.spot = none := by simpa [Addr.add] using World.cell?_spot (hcell 0 (by omega))
    obtain ⟨b, off, spot⟩ := a
    simp only at hsp
    subst hsp
    refine ⟨b, off, rfl, ?_⟩
    have := hcell i (by omega)
    rw [add_plain] at this
    rw [this]
    simp [List.getD_eq_getElem?_getD, List.getElem?_take_of_lt hi]

set_option maxRecDepth 100000 in
theorem lifted (os : Os) (started : os.Started) (H : Type) (enc : TypeId × Value → H) :
    ReturnsInHanded {} Try.checked os 6 .any (Rows.fnFrontDoorLostIsOrderFreeAndIdempotentSpec.pre6 enc Try.prog Try.f6 Rows.fnFrontDoorLostIsOrderFreeAndIdempotentRow.domain false) (Rows.fnFrontDoorLostIsOrderFreeAndIdempotentSpec.post enc Try.prog Try.f6 false true false false) := by
  refine returnsInHanded_of_change_sized (C := Try.checked) Try.own started (by kernel_rfl) Try.func6
    (ChangeSpec.witness6 (enc := enc) (C := Try.checked) false ⟨#[], #[.string ByteArray.empty, .string ByteArray.empty, .agg #[.slice none 0 0, .slice none 0 0, .slice none 0 0], .agg #[.slice none 0 0, .slice none 0 0, .slice none 0 0]], []⟩ 8 (by kernel_rfl) (by kernel_rfl) (by kernel_rfl) (by kernel_rfl)) ?_
  intro W base args ds gs before hval0 hW hcnd hsz0 _
  have hval : ∀ (j : Nat) t v, Try.f6.params[j]? = some t → args[j]? = some v → Value.okWide Try.prog W .any base t v := hval0
  have hsz : (DataW.weightsEach Try.prog (Try.f6.params.toList ++ Rows.fnFrontDoorLostIsOrderFreeAndIdempotentSpec.plain.varTypes Try.prog) (ds ++ gs)).all (· ≤ reachBytes) = true := hsz0
  have hW' := hW
  obtain ⟨p, q, hA0, hV, rfl, hfz, hnd⟩ := hW
  have hA : DataW.TrodAll enc Try.prog W 0 (fun _ => true) true Try.f6.params.toList args.toList ds p := hA0
  rw [Try.params6] at hA hval hsz
  obtain ⟨v0, v1, v2, v3, d0, d1, d2, d3, p0, p1, p2, p3, rfl, rfl, rfl, h0, h1, h2, h3⟩ := trodAll_four hA
  obtain ⟨rfl, rfl⟩ := trodVars_none hV
  obtain ⟨x, rfl, rfl, rfl, wx⟩ := open_string Try.underlying9 (hval 0 9 v0 rfl rfl) h0
  obtain ⟨y, rfl, rfl, rfl, wy⟩ := open_string Try.underlying9 (hval 1 9 v1 rfl rfl) h1
  have k2 := h2
  have k3 := h3
  have lt2 : ∀ x ∈ p2, x.block < W.heap.size := by obtain ⟨m, hm⟩ := k2; exact DataW.trod_lt m _ _ _ hm
  have lt3 : ∀ x ∈ p3, x.block < W.heap.size := by obtain ⟨m, hm⟩ := k3; exact DataW.trod_lt m _ _ _ hm
  have hz2 : ∀ k ∈ DataW.weights Try.prog 38 d2, k ≤ reachBytes := fun k hk => by
    have := List.all_eq_true.1 hsz _ (DataW.weights_mem_each (j := 2) (t := 38) (d := d2) rfl rfl k hk)
    simpa using this
  have hz3 : ∀ k ∈ DataW.weights Try.prog 38 d3, k ≤ reachBytes := fun k hk => by
    have := List.all_eq_true.1 hsz _ (DataW.weights_mem_each (j := 3) (t := 38) (d := d3) rfl rfl k hk)
    simpa using this
  obtain ⟨u0, u1, u2, y0, y1, y2, m, rfl, rfl, rfl, g0, g1, g2⟩ := open_agg3 Try.underlying38 (by kernel_rfl) Try.cells38 (hval 2 38 v2 rfl rfl) h2
  obtain ⟨u3, u4, u5, y3, y4, y5, m', rfl, rfl, rfl, g3, g4, g5⟩ := open_agg3 Try.underlying38 (by kernel_rfl) Try.cells38 (hval 3 38 v3 rfl rfl) h3
  have each : ∀ (a b c : DataW H) k, (k ∈ DataW.weights Try.prog 36 a ∨ k ∈ DataW.weights Try.prog 36 b ∨ k ∈ DataW.weights Try.prog 36 c) → k ∈ DataW.weights Try.prog 38 (.agg [a, b, c]) := by
    intro a b c k hk
    simp only [DataW.weights, Try.underlying38]
    simp [DataW.weightsEach]
    exact hk
  obtain ⟨a1, s1, c1, rfl, t1, n1, e1, z1⟩ := strs_view g0 (fun k hk => hz2 k (each _ _ _ k (.inl hk)))
  obtain ⟨a2, s2, c2, rfl, t2, n2, e2, z2⟩ := strs_view g1 (fun k hk => hz2 k (each _ _ _ k (.inr (.inl hk))))
  obtain ⟨a3, s3, c3, rfl, t3, n3, e3, z3⟩ := strs_view g2 (fun k hk => hz2 k (each _ _ _ k (.inr (.inr hk))))
  obtain ⟨a4, s4, c4, rfl, t4, n4, e4, z4⟩ := strs_view g3 (fun k hk => hz3 k (each _ _ _ k (.inl hk)))
  obtain ⟨a5, s5, c5, rfl, t5, n5, e5, z5⟩ := strs_view g4 (fun k hk => hz3 k (each _ _ _ k (.inr (.inl hk))))
  obtain ⟨a6, s6, c6, rfl, t6, n6, e6, z6⟩ := strs_view g5 (fun k hk => hz3 k (each _ _ _ k (.inr (.inr hk))))
  clear hA0 hval0
  refine (law_any x y a1 a2 a3 a4 a5 a6 c1 c2 c3 c4 c5 c6 s1 s2 s3 s4 s5 s6 W t1 t2 t3 t4 t5 t6 n1 n2 n3 n4 n5 n6 e1 e2 e4 e5 z3 z6 wx wy).mono fun e W' ⟨he, bel⟩ => ?_
  subst he
  exact ⟨_, rfl, _, _, _, [], _, [], hW', trodAll_mk1 (shut_bool Try.underlying4 _), trodAll_mk4 (shut_string Try.underlying9 wx) (shut_string Try.underlying9 wy) (Below.trod Try.laidOut (by kernel_rfl) (of_decide_eq_true (by kernel_rfl)) k2 bel lt2) (Below.trod Try.laidOut (by kernel_rfl) (of_decide_eq_true (by kernel_rfl)) k3 bel lt3), rfl, bel.frame _, fun h => by cases h⟩

theorem over : Rows.fnFrontDoorLostIsOrderFreeAndIdempotentRow.holds Try.pinned (OpenSpec.ofChange Rows.fnFrontDoorLostIsOrderFreeAndIdempotentSpec) :=
  OpenClaim.holds_of_wide 6 Try.f6 rfl rfl rfl rfl rfl rfl rfl ⟨rfl, rfl, rfl, rfl, rfl⟩ rfl rfl rfl rfl rfl (by kernel_rfl) Try.func6 (by kernel_rfl)
    (of_decide_eq_true (by kernel_rfl)) (by unfold Func.isWrapper; first | (rw [if_pos (by decide +kernel)]; kernel_rfl) | (rw [if_neg (by decide +kernel)]; exact ⟨rfl, rfl⟩))
    (fun os started H enc _ => lifted os started H enc)

/-- The statement. -/
theorem frontDoor_holds : Rows.FnFrontDoorLostIsOrderFreeAndIdempotentSaid := over
#print axioms frontDoor_holds

end Go.Proofs.Qxb6615949a
