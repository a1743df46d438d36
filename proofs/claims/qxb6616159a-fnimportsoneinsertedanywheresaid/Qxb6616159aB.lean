import Derived.Test.Qxb6616159aA
namespace Go.Proofs.Qxb6616159a
open Go.RowKit
set_option linter.unusedSimpArgs false

/-- A bool; where it is true, the lengths are small. -/
def LenRet (xs : List It) (e : Ending) : Prop := ∃ r : Bool, e = .returned (.bool r) ∧ (r = true → xs.length ≤ 1048576 ∧ ∀ x ∈ xs, x.t.size ≤ 1048576)
def LenRet2 (x : It) (xs : List It) (e : Ending) : Prop := ∃ r : Bool, e = .returned (.bool r) ∧ (r = true → xs.length ≤ 1048576 ∧ x.t.size ≤ 1048576 ∧ ∀ x ∈ xs, x.t.size ≤ 1048576)
theorem small_all {xs : List It} {j : Nat} (hj : j ≤ xs.length) (hlt : ¬ j < xs.length) (hT : ∀ i, i < j → (xs.getD i It.zero).t.size ≤ 1048576) : ∀ x ∈ xs, x.t.size ≤ 1048576 := by
  intro x hx
  obtain ⟨i, hi, rfl⟩ := List.getElem_of_mem hx
  have := hT i (by omega)
  rwa [List.getD_eq_getElem?_getD, List.getElem?_eq_getElem hi] at this
theorem small_next {xs : List It} {j : Nat} (hT : ∀ i, i < j → (xs.getD i It.zero).t.size ≤ 1048576) : (xs.getD j It.zero).t.size ≤ 1048576 → ∀ i, i < j + 1 → (xs.getD i It.zero).t.size ≤ 1048576 := fun h i hi => by
  rcases Nat.lt_succ_iff_lt_or_eq.1 hi with h' | rfl
  · exact hT i h'
  · exact h

set_option maxHeartbeats 2000000 in
theorem bytes5_any (a : Option Addr) (c : Nat) (xs : List It) (k : Int) (w : World) (hs : Items w a xs) :
    Calls Try.prog 5 #[.slice a xs.length c, .int .i64 k] w fun e w' => LenRet xs e ∧ w' = w := by
  go_enter Try.func5, Try.ntmps5
  by_cases hbig : 1048576 < xs.length
  · go_wp2
    go_ret
    exact ⟨⟨_, rfl, by simp⟩, rfl⟩
  go_wp2
  go_loop [5, 6] (fun t i => ∃ (j : Nat) (r : Int), j ≤ xs.length ∧ i = .int .i64 j ∧ t = .int .i64 r ∧ ∀ i, i < j → (xs.getD i It.zero).t.size ≤ 1048576) (fun _ i => xs.length - (intOf i).toNat)
  case atStart => exact ⟨0, _, Nat.zero_le _, rfl, rfl, fun i hi => absurd hi (Nat.not_lt_zero _)⟩
  case round =>
    obtain ⟨j, r, hj, rfl, rfl, hT⟩ := hrel
    by_cases hlt : j < xs.length
    · obtain ⟨b, off, rfl, h0, h1, h2, h3, h4, h5⟩ := hs j hlt
      have hT2 := small_next hT
      clear hT
      generalize xs.getD j It.zero = x1 at *
      by_cases hbt : 1048576 < x1.t.size
      · go_wp2
        go_ret
        exact ⟨⟨_, rfl, by simp⟩, rfl⟩
      have hT2 := hT2 (by omega)
      go_wp2
      any_goals (go_ret; exact ⟨⟨_, rfl, by simp⟩, rfl⟩)
      go_round
      case rel => exact ⟨j + 1, _, by omega, by go_num, rfl, hT2⟩
      case measure => simp [intOf]; omega
    · go_wp2
      go_ret
      exact ⟨⟨_, rfl, fun _ => ⟨by omega, small_all hj hlt hT⟩⟩, rfl⟩

set_option maxHeartbeats 2000000 in
theorem tooBig_any (a : Option Addr) (c : Nat) (xs : List It) (k : Int) (w : World) (hs : Items w a xs) (hn : xs.length ≤ 140737488355328) :
    Calls Try.prog 6 #[.slice a xs.length c, .int .i64 k] w fun e w' => BoolRet e ∧ Below w.heap.size w w' := by
  go_enter Try.func6, Try.ntmps6
  go_wp2
  any_goals (go_ret; exact ⟨⟨_, rfl⟩, Below.refl _ _⟩)
  go_loopw [5, 6] (fun t i wr => ∃ (j : Nat) (r : Int), j ≤ xs.length ∧ i = .int .i64 j ∧ t = .int .i64 r ∧ Below w.heap.size w wr) (fun _ i _ => xs.length - (intOf i).toNat)
  case atStart => exact ⟨0, _, Nat.zero_le _, rfl, rfl, Below.refl _ _⟩
  obtain ⟨j, r, hj, rfl, rfl, hb⟩ := hrel
  by_cases hlt : j < xs.length
  · obtain ⟨b, off, rfl, h0, h1, h2, h3, h4, h5⟩ := hs.below hb j hlt
    have hj0 : (0 : Int) ≤ j := by omega
    have hj1 : (j : Int) < xs.length := by omega
    go_wp2
    go_quiet (fail)
    go_wp2
    · go_ret
      exact ⟨⟨_, rfl⟩, ⟨hb.os, hb.tape, hb.output, hb.size, hb.block⟩⟩
    · go_roundw
      case rel => exact ⟨j + 1, _, by omega, by go_num, rfl, ⟨hb.os, hb.tape, hb.output, hb.size, hb.block⟩⟩
      case measure => simp [intOf]; omega
  · go_wp2
    go_ret
    exact ⟨⟨_, rfl⟩, hb⟩

set_option maxHeartbeats 4000000 in
theorem bytes11_any (a : Option Addr) (c : Nat) (xs : List It) (k : Int) (x : It) (w : World) (hs : Items w a xs) :
    Calls Try.prog 11 #[.slice a xs.length c, .int .i64 k, x.val] w fun e w' => LenRet2 x xs e ∧ Below w.heap.size w w' := by
  obtain ⟨xk, xt, xck, xc, xpk, xp⟩ := x
  unfold It.val
  have hb : Below w.heap.size w (w.alloc (.cells #[.int .i64 xk, .string xt, .int .i64 xck, .string xc, .int .i64 xpk, .string xp] 26)) := (Below.refl _ _).alloc (Nat.le_refl _) _
  have hs1 := hs.below hb
  go_enter Try.func11, Try.ntmps11
  by_cases hbig : 1048576 < xs.length
  · go_wp2
    go_ret
    exact ⟨⟨_, rfl, by simp⟩, hb⟩
  go_wp2
  go_loop [7, 8] (fun t i => ∃ (j : Nat) (r : Int), j ≤ xs.length ∧ i = .int .i64 j ∧ t = .int .i64 r ∧ ∀ i, i < j → (xs.getD i It.zero).t.size ≤ 1048576) (fun _ i => xs.length - (intOf i).toNat)
  case atStart => exact ⟨0, _, Nat.zero_le _, rfl, rfl, fun i hi => absurd hi (Nat.not_lt_zero _)⟩
  case round =>
    obtain ⟨j, r, hj, rfl, rfl, hT⟩ := hrel
    by_cases hlt : j < xs.length
    · obtain ⟨b, off, rfl, h0, h1, h2, h3, h4, h5⟩ := hs1 j hlt
      have hT2 := small_next hT
      clear hT
      generalize xs.getD j It.zero = x1 at *
      by_cases hbt : 1048576 < x1.t.size
      · go_wp2
        go_ret
        exact ⟨⟨_, rfl, by simp⟩, hb⟩
      have hT2 := hT2 (by omega)
      go_wp2
      any_goals (go_ret; exact ⟨⟨_, rfl, by simp⟩, hb⟩)
      go_round
      case rel => exact ⟨j + 1, _, by omega, by go_num, rfl, hT2⟩
      case measure => simp [intOf]; omega
    · by_cases hbx : 1048576 < xt.size
      · go_wp2
        go_ret
        exact ⟨⟨_, rfl, by simp⟩, hb⟩
      go_wp2
      any_goals (go_ret; exact ⟨⟨_, rfl, fun _ => ⟨by omega, by show xt.size ≤ _; omega, small_all hj hlt hT⟩⟩, hb⟩)

end Go.Proofs.Qxb6616159a
