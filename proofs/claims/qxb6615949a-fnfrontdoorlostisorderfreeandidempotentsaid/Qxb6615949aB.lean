import Derived.Test.Qxb6615949aA
namespace Go.Proofs.Qxb6615949a
open Go.RowKit

set_option maxHeartbeats 4000000 in
set_option maxRecDepth 100000 in
theorem bytes_any (x y : ByteArray) (a1 a2 a3 a4 a5 a6 : Option Addr) (c1 c2 c3 c4 c5 c6 : Nat) (s1 s2 s3 s4 s5 s6 : List ByteArray) (w : World) (h1 : Strs w a1 s1) (h2 : Strs w a2 s2) (h3 : Strs w a3 s3) (h4 : Strs w a4 s4) (h5 : Strs w a5 s5) (h6 : Strs w a6 s6)
    (n1 : s1.length ≤ 9223372036854775807) (n2 : s2.length ≤ 9223372036854775807) (n3 : s3.length ≤ 9223372036854775807) (n4 : s4.length ≤ 9223372036854775807) (n5 : s5.length ≤ 9223372036854775807) (n6 : s6.length ≤ 9223372036854775807) :
    Calls Try.prog 15 #[.string x, .string y, .agg #[.slice a1 s1.length c1, .slice a2 s2.length c2, .slice a3 s3.length c3], .agg #[.slice a4 s4.length c4, .slice a5 s5.length c5, .slice a6 s6.length c6]] w fun e w' => BoolRet e ∧ Below w.heap.size w w' := by
  go_enter Try.func15, Try.ntmps15
  go_wp2
  any_goals (go_ret; exact ⟨BoolRet.mk _, by repeat (first | exact Below.refl _ _ | apply Below.drew | refine Below.alloc ?_ (by simp) _)⟩)
  go_loop [9, 10] (fun z i => ∃ (k : Nat) (r : Int), k ≤ s1.length ∧ i = .int .i64 k ∧ z = .int .i64 r) (fun _ i => s1.length - (intOf i).toNat)
  case atStart => exact ⟨0, _, Nat.zero_le _, rfl, rfl⟩
  obtain ⟨k1, r1, hk1, rfl, rfl⟩ := hrel
  by_cases hlt1 : k1 < s1.length
  · obtain ⟨b, off, rfl, hc⟩ := ((h1.alloc (.cells #[.slice a1 s1.length c1, .slice a2 s2.length c2, .slice a3 s3.length c3] 38)).alloc (.cells #[.slice a4 s4.length c4, .slice a5 s5.length c5, .slice a6 s6.length c6] 38)) k1 hlt1
    go_wp2
    any_goals (go_ret; exact ⟨BoolRet.mk _, by repeat (first | exact Below.refl _ _ | apply Below.drew | refine Below.alloc ?_ (by simp) _)⟩)
    go_round
    case rel => exact ⟨k1 + 1, _, by omega, by go_num, rfl⟩
    case measure => simp [intOf]; omega
  go_wp2
  any_goals (go_ret; exact ⟨BoolRet.mk _, by repeat (first | exact Below.refl _ _ | apply Below.drew | refine Below.alloc ?_ (by simp) _)⟩)
  go_loop [9, 11] (fun z i => ∃ (k : Nat) (r : Int), k ≤ s2.length ∧ i = .int .i64 k ∧ z = .int .i64 r) (fun _ i => s2.length - (intOf i).toNat)
  case atStart => exact ⟨0, _, Nat.zero_le _, rfl, rfl⟩
  obtain ⟨k2, r2, hk2, rfl, rfl⟩ := hrel
  by_cases hlt2 : k2 < s2.length
  · obtain ⟨b, off, rfl, hc⟩ := ((h2.alloc (.cells #[.slice a1 s1.length c1, .slice a2 s2.length c2, .slice a3 s3.length c3] 38)).alloc (.cells #[.slice a4 s4.length c4, .slice a5 s5.length c5, .slice a6 s6.length c6] 38)) k2 hlt2
    go_wp2
    any_goals (go_ret; exact ⟨BoolRet.mk _, by repeat (first | exact Below.refl _ _ | apply Below.drew | refine Below.alloc ?_ (by simp) _)⟩)
    go_round
    case rel => exact ⟨k2 + 1, _, by omega, by go_num, rfl⟩
    case measure => simp [intOf]; omega
  go_wp2
  any_goals (go_ret; exact ⟨BoolRet.mk _, by repeat (first | exact Below.refl _ _ | apply Below.drew | refine Below.alloc ?_ (by simp) _)⟩)
  go_loop [9, 12] (fun z i => ∃ (k : Nat) (r : Int), k ≤ s3.length ∧ i = .int .i64 k ∧ z = .int .i64 r) (fun _ i => s3.length - (intOf i).toNat)
  case atStart => exact ⟨0, _, Nat.zero_le _, rfl, rfl⟩
  obtain ⟨k3, r3, hk3, rfl, rfl⟩ := hrel
  by_cases hlt3 : k3 < s3.length
  · obtain ⟨b, off, rfl, hc⟩ := ((h3.alloc (.cells #[.slice a1 s1.length c1, .slice a2 s2.length c2, .slice a3 s3.length c3] 38)).alloc (.cells #[.slice a4 s4.length c4, .slice a5 s5.length c5, .slice a6 s6.length c6] 38)) k3 hlt3
    go_wp2
    any_goals (go_ret; exact ⟨BoolRet.mk _, by repeat (first | exact Below.refl _ _ | apply Below.drew | refine Below.alloc ?_ (by simp) _)⟩)
    go_round
    case rel => exact ⟨k3 + 1, _, by omega, by go_num, rfl⟩
    case measure => simp [intOf]; omega
  go_wp2
  any_goals (go_ret; exact ⟨BoolRet.mk _, by repeat (first | exact Below.refl _ _ | apply Below.drew | refine Below.alloc ?_ (by simp) _)⟩)
  go_loop [9, 13] (fun z i => ∃ (k : Nat) (r : Int), k ≤ s4.length ∧ i = .int .i64 k ∧ z = .int .i64 r) (fun _ i => s4.length - (intOf i).toNat)
  case atStart => exact ⟨0, _, Nat.zero_le _, rfl, rfl⟩
  obtain ⟨k4, r4, hk4, rfl, rfl⟩ := hrel
  by_cases hlt4 : k4 < s4.length
  · obtain ⟨b, off, rfl, hc⟩ := ((h4.alloc (.cells #[.slice a1 s1.length c1, .slice a2 s2.length c2, .slice a3 s3.length c3] 38)).alloc (.cells #[.slice a4 s4.length c4, .slice a5 s5.length c5, .slice a6 s6.length c6] 38)) k4 hlt4
    go_wp2
    any_goals (go_ret; exact ⟨BoolRet.mk _, by repeat (first | exact Below.refl _ _ | apply Below.drew | refine Below.alloc ?_ (by simp) _)⟩)
    go_round
    case rel => exact ⟨k4 + 1, _, by omega, by go_num, rfl⟩
    case measure => simp [intOf]; omega
  go_wp2
  any_goals (go_ret; exact ⟨BoolRet.mk _, by repeat (first | exact Below.refl _ _ | apply Below.drew | refine Below.alloc ?_ (by simp) _)⟩)
  go_loop [9, 14] (fun z i => ∃ (k : Nat) (r : Int), k ≤ s5.length ∧ i = .int .i64 k ∧ z = .int .i64 r) (fun _ i => s5.length - (intOf i).toNat)
  case atStart => exact ⟨0, _, Nat.zero_le _, rfl, rfl⟩
  obtain ⟨k5, r5, hk5, rfl, rfl⟩ := hrel
  by_cases hlt5 : k5 < s5.length
  · obtain ⟨b, off, rfl, hc⟩ := ((h5.alloc (.cells #[.slice a1 s1.length c1, .slice a2 s2.length c2, .slice a3 s3.length c3] 38)).alloc (.cells #[.slice a4 s4.length c4, .slice a5 s5.length c5, .slice a6 s6.length c6] 38)) k5 hlt5
    go_wp2
    any_goals (go_ret; exact ⟨BoolRet.mk _, by repeat (first | exact Below.refl _ _ | apply Below.drew | refine Below.alloc ?_ (by simp) _)⟩)
    go_round
    case rel => exact ⟨k5 + 1, _, by omega, by go_num, rfl⟩
    case measure => simp [intOf]; omega
  go_wp2
  any_goals (go_ret; exact ⟨BoolRet.mk _, by repeat (first | exact Below.refl _ _ | apply Below.drew | refine Below.alloc ?_ (by simp) _)⟩)
  go_loop [9, 15] (fun z i => ∃ (k : Nat) (r : Int), k ≤ s6.length ∧ i = .int .i64 k ∧ z = .int .i64 r) (fun _ i => s6.length - (intOf i).toNat)
  case atStart => exact ⟨0, _, Nat.zero_le _, rfl, rfl⟩
  obtain ⟨k6, r6, hk6, rfl, rfl⟩ := hrel
  by_cases hlt6 : k6 < s6.length
  · obtain ⟨b, off, rfl, hc⟩ := ((h6.alloc (.cells #[.slice a1 s1.length c1, .slice a2 s2.length c2, .slice a3 s3.length c3] 38)).alloc (.cells #[.slice a4 s4.length c4, .slice a5 s5.length c5, .slice a6 s6.length c6] 38)) k6 hlt6
    go_wp2
    any_goals (go_ret; exact ⟨BoolRet.mk _, by repeat (first | exact Below.refl _ _ | apply Below.drew | refine Below.alloc ?_ (by simp) _)⟩)
    go_round
    case rel => exact ⟨k6 + 1, _, by omega, by go_num, rfl⟩
    case measure => simp [intOf]; omega
  go_wp2
  go_ret; exact ⟨BoolRet.mk _, by repeat (first | exact Below.refl _ _ | apply Below.drew | refine Below.alloc ?_ (by simp) _)⟩

end Go.Proofs.Qxb6615949a
