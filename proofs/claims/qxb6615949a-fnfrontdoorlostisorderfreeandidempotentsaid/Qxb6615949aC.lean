import Derived.Test.Qxb6615949aA
namespace Go.Proofs.Qxb6615949a
open Go.RowKit

theorem toList_beq (x y : ByteArray) : (x.toList == y.toList) = true ↔ x = y := by
  rw [beq_iff_eq, ByteArray.toList_eq, ByteArray.toList_eq]
  exact ⟨fun h => ByteArray.ext (Array.toList_inj.1 h), fun h => by rw [h]⟩
theorem toList_beq_false (x y : ByteArray) : (x.toList == y.toList) = false ↔ x ≠ y := by
  rw [← Bool.not_eq_true, toList_beq]
theorem take_snoc {α : Type} (l : List α) (k : Nat) (h : k < l.length) : l.take (k + 1) = l.take k ++ [l[k]] := List.take_succ_eq_append_getElem h

/-- Is x among ss? -/
def hasB (ss : List ByteArray) (x : ByteArray) : Bool := ss.any (fun s => s.toList == x.toList)

theorem hasB_iff (ss : List ByteArray) (x : ByteArray) : hasB ss x = true ↔ x ∈ ss := by
  simp only [hasB, List.any_eq_true, toList_beq]
  exact ⟨fun ⟨y, h, e⟩ => e ▸ h, fun h => ⟨x, h, rfl⟩⟩

set_option maxHeartbeats 400000 in
theorem contains_any (x : ByteArray) (a : Option Addr) (c : Nat) (ss : List ByteArray) (w : World) (hs : Strs w a ss) (hn : ss.length ≤ 9223372036854775807) :
    Calls Try.prog 25 #[.slice a ss.length c, .string x] w fun e w' => e = .returned (.bool (hasB ss x)) ∧ w' = w := by
  go_enter Try.func25, Try.ntmps25
  go_wp2
  go_loop [5] (fun i => ∃ (k : Nat), k ≤ ss.length ∧ i = .int .i64 k ∧ x ∉ ss.take k) (fun i => ss.length - (intOf i).toNat)
  case atStart => exact ⟨0, Nat.zero_le _, rfl, by simp⟩
  case round =>
    obtain ⟨k, hk, rfl, hno⟩ := hrel
    have HN : Hid (x ∉ ss.take k) := hno
    clear hno
    by_cases hlt : k < ss.length
    · obtain ⟨b, off, rfl, hc⟩ := hs k hlt
      go_wp2
      · have ht : (ss[k].toList == x.toList) = true := by assumption
        go_ret
        refine ⟨?_, rfl⟩
        rw [(hasB_iff ss x).2 (by rw [← (toList_beq _ _).1 ht]; exact List.getElem_mem _)]
        rfl
      · have ht : (ss[k].toList == x.toList) = false := by assumption
        go_round
        case rel => exact ⟨k + 1, by omega, by go_num, by
          rw [take_snoc _ _ hlt, List.mem_append, not_or]
          refine ⟨HN.out, fun h => ?_⟩
          have : x = ss[k] := by simpa using h
          exact (toList_beq_false _ _).1 ht this.symm⟩
        case measure => simp [intOf]; omega
    · go_wp2
      go_ret
      refine ⟨?_, rfl⟩
      have hf : hasB ss x = false := by
        cases hh : hasB ss x with
        | false => rfl
        | true => exact absurd ((hasB_iff ss x).1 hh) (by have := HN.out; rwa [List.take_of_length_le (by omega)] at this)
      rw [hf]
      rfl

set_option maxHeartbeats 2000000 in
theorem reachable_any (a1 a2 a3 : Option Addr) (c1 c2 c3 : Nat) (s1 s2 s3 : List ByteArray) (w : World) (h1 : Strs w a1 s1) (h2 : Strs w a2 s2) (h3 : Strs w a3 s3)
    (n1 : s1.length ≤ 9223372036854775807) (n2 : s2.length ≤ 9223372036854775807) (n3 : s3.length ≤ 9223372036854775807) :
    Calls Try.prog 17 #[.agg #[.slice a1 s1.length c1, .slice a2 s2.length c2, .slice a3 s3.length c3]] w fun e w' => BoolRet e ∧ Below w.heap.size w w' := by
  have g1 := h1.alloc (.cells #[.slice a1 s1.length c1, .slice a2 s2.length c2, .slice a3 s3.length c3] 38)
  have g2 := h2.alloc (.cells #[.slice a1 s1.length c1, .slice a2 s2.length c2, .slice a3 s3.length c3] 38)
  have g3 := h3.alloc (.cells #[.slice a1 s1.length c1, .slice a2 s2.length c2, .slice a3 s3.length c3] 38)
  go_enter Try.func17, Try.ntmps17
  go_wp2
  go_loopw [3] (fun i w' => ∃ (k n : Nat), k ≤ s1.length ∧ i = .int .i64 k ∧ w' = (w.alloc (.cells #[.slice a1 s1.length c1, .slice a2 s2.length c2, .slice a3 s3.length c3] 38)).drewN n) (fun i _ => s1.length - (intOf i).toNat)
  case atStart => exact ⟨0, 0, Nat.zero_le _, rfl, rfl⟩
  obtain ⟨k, n, hk, rfl, rfl⟩ := hrel
  by_cases hlt : k < s1.length
  · go_wp2
    go_loopw [4] (fun i w' => ∃ (j n : Nat), j ≤ k ∧ i = .int .i64 j ∧ w' = (w.alloc (.cells #[.slice a1 s1.length c1, .slice a2 s2.length c2, .slice a3 s3.length c3] 38)).drewN n) (fun i _ => k - (intOf i).toNat)
    case atStart => exact ⟨0, _, Nat.zero_le _, rfl, rfl⟩
    obtain ⟨j, m, hj, rfl, rfl⟩ := hrel
    by_cases hlt2 : j < k
    · obtain ⟨b, off, rfl, hc⟩ := g1 k hlt
      obtain ⟨b', off', hb', hc'⟩ := g1 j (by omega)
      simp only [Option.some.injEq, Addr.mk.injEq] at hb'
      obtain ⟨rfl, rfl, -⟩ := hb'
      have i1 : (0 : Int) ≤ (k : Int) := by omega
      have i2 : (k : Int) < (s1.length : Int) := by omega
      have i3 : (0 : Int) ≤ (j : Int) := by omega
      have i4 : (j : Int) < (s1.length : Int) := by omega
      go_wp2
      go_quiet (fail)
      go_wp2
      · go_ret; exact ⟨BoolRet.mk _, by repeat (first | exact Below.refl _ _ | apply Below.drew | apply below_drewN | refine Below.alloc ?_ (by simp) _)⟩
      · go_roundw
        case rel => exact ⟨j + 1, _, by omega, by go_num, rfl⟩
        case measure => simp [intOf]; omega
    · go_wp2
      go_roundw
      case rel => exact ⟨k + 1, _, by omega, by go_num, rfl⟩
      case measure => simp [intOf]; omega
  go_wp2
  go_loopw [5, 6] (fun p i w' => ∃ (q k n : Nat), q ≤ s1.length ∧ k ≤ s2.length ∧ p = .int .i64 q ∧ i = .int .i64 k ∧ w' = (w.alloc (.cells #[.slice a1 s1.length c1, .slice a2 s2.length c2, .slice a3 s3.length c3] 38)).drewN n) (fun _ i _ => s2.length - (intOf i).toNat)
  case atStart => exact ⟨0, 0, _, Nat.zero_le _, Nat.zero_le _, rfl, rfl, rfl⟩
  obtain ⟨q, k2, n, hq, hk2, rfl, rfl, rfl⟩ := hrel
  by_cases hlt2 : k2 < s2.length
  · go_wp2
    go_loopw [5] (fun p w' => ∃ (q n : Nat), q ≤ s1.length ∧ p = .int .i64 q ∧ w' = (w.alloc (.cells #[.slice a1 s1.length c1, .slice a2 s2.length c2, .slice a3 s3.length c3] 38)).drewN n) (fun p _ => s1.length - (intOf p).toNat)
    case atStart => exact ⟨q, _, hq, rfl, rfl⟩
    obtain ⟨q', m, hq', rfl, rfl⟩ := hrel
    by_cases hlt3 : q' < s1.length
    · obtain ⟨b, off, rfl, hc⟩ := g1 q' hlt3
      obtain ⟨b', off', rfl, hc'⟩ := g2 k2 hlt2
      have i1 : (0 : Int) ≤ (q' : Int) := by omega
      have i2 : (q' : Int) < (s1.length : Int) := by omega
      have i3 : (0 : Int) ≤ (k2 : Int) := by omega
      have i4 : (k2 : Int) < (s2.length : Int) := by omega
      have i5 : ((q' : Int) == (s1.length : Int)) = false := beq_eq_false_iff_ne.2 (by omega)
      go_wp2
      go_quiet (fail)
      go_wp2
      · go_roundw
        case rel => exact ⟨q' + 1, _, by omega, by go_num, rfl⟩
        case measure => simp [intOf]; omega
      · go_roundw
        case rel => exact ⟨q' + 1, k2 + 1, _, by omega, by omega, by go_num, by go_num, rfl⟩
        case measure => simp [intOf]; omega
    · have i1 : decide ((q' : Int) < (s1.length : Int)) = false := decide_eq_false (by omega)
      have i2 : ((q' : Int) == (s1.length : Int)) = true := beq_iff_eq.2 (by omega)
      go_wp2
      go_quiet (fail)
      go_wp2
      go_ret; exact ⟨BoolRet.mk _, by repeat (first | exact Below.refl _ _ | apply Below.drew | apply below_drewN | refine Below.alloc ?_ (by simp) _)⟩
  go_wp2
  go_loopw [7] (fun i w' => ∃ (k n : Nat), k ≤ s3.length ∧ i = .int .i64 k ∧ w' = (w.alloc (.cells #[.slice a1 s1.length c1, .slice a2 s2.length c2, .slice a3 s3.length c3] 38)).drewN n) (fun i _ => s3.length - (intOf i).toNat)
  case atStart => exact ⟨0, _, Nat.zero_le _, rfl, rfl⟩
  obtain ⟨k3, n, hk3, rfl, rfl⟩ := hrel
  by_cases hlt3 : k3 < s3.length
  · obtain ⟨b, off, rfl, hc⟩ := g3 k3 hlt3
    have i3 : (0 : Int) ≤ (k3 : Int) := by omega
    have i4 : (k3 : Int) < (s3.length : Int) := by omega
    go_wp2
    go_quiet ((go_at_call 25; refine (contains_any _ _ _ s2 _ (g2.below (below_drewN (Below.refl _ _) _)) n2).mono ?_; rintro e w' ⟨rfl, rfl⟩; exact ⟨rfl, _, rfl⟩))
    go_wp2
    · go_ret; exact ⟨BoolRet.mk _, by repeat (first | exact Below.refl _ _ | apply Below.drew | apply below_drewN | refine Below.alloc ?_ (by simp) _)⟩
    · go_roundw
      case rel => exact ⟨k3 + 1, _, by omega, by go_num, rfl⟩
      case measure => simp [intOf]; omega
  go_wp2
  go_ret; exact ⟨BoolRet.mk _, by repeat (first | exact Below.refl _ _ | apply Below.drew | apply below_drewN | refine Below.alloc ?_ (by simp) _)⟩

end Go.Proofs.Qxb6615949a
