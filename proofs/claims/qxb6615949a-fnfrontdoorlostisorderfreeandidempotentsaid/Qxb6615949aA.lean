import Derived.Test.Qxb6615949aRows
import Derived.WalkKit
import Derived.WalkSpells
import Derived.WalkLawsBesides
import Derived.Deep.QuietTactic
import Derived.BigQuiet
namespace Go.Proofs.Qxb6615949a
open Go.RowKit

theorem cell_lt {w : World} {a : Addr} {v : Value} (h : w.cell? a = some v) : a.block < w.heap.size := by
  rcases Nat.lt_or_ge a.block w.heap.size with h' | h'
  · exact h'
  · rw [World.cell?, Array.getElem?_eq_none h'] at h
    cases h

/-- Some bool was returned. -/
def BoolRet (e : Ending) : Prop := ∃ r : Bool, e = .returned (.bool r)
theorem BoolRet.mk (r : Bool) : BoolRet (.returned (.bool r)) := ⟨r, rfl⟩

/-- The slice over address 'a' reads, in world w, as the strings ss. -/
def Strs (w : World) (a : Option Addr) (ss : List ByteArray) : Prop :=
  ∀ i, i < ss.length → ∃ b off, a = some ⟨b, off, none⟩ ∧ w.cell? ⟨b, off + i, none⟩ = some (.string (ss.getD i ByteArray.empty))

theorem bcell {W w1 : World} (hb : Below W.heap.size W w1) : (∀ b o, b < W.heap.size → w1.cell? ⟨b, o, none⟩ = W.cell? ⟨b, o, none⟩) ∧ (∀ b o, b < W.heap.size → w1.frozen? ⟨b, o, none⟩ = W.frozen? ⟨b, o, none⟩) :=
  ⟨fun b o h => hb.cell (p := ⟨b, o, none⟩) h, fun b o h => hb.frozen (p := ⟨b, o, none⟩) h⟩

theorem Strs.below {w w' : World} {a : Option Addr} {ss : List ByteArray} (h : Strs w a ss) (hb : Below w.heap.size w w') : Strs w' a ss := by
  intro i hi
  obtain ⟨b, off, rfl, hc⟩ := h i hi
  exact ⟨b, off, rfl, by rw [hb.cell (p := ⟨b, off + i, none⟩) (cell_lt hc)]; exact hc⟩

theorem Strs.alloc {w : World} {a : Option Addr} {ss : List ByteArray} (h : Strs w a ss) (o : Obj) : Strs (w.alloc o) a ss :=
  h.below ((Below.refl _ _).alloc (Nat.le_refl _) _)

set_option maxHeartbeats 400000 in
theorem stringsSize_any (t : Int) (a : Option Addr) (c : Nat) (ss : List ByteArray) (w : World) (hs : Strs w a ss) (hn : ss.length ≤ 9223372036854775807) :
    Calls Try.prog 42 #[.int .i64 t, .slice a ss.length c] w fun e w' => (∃ r : Int, e = .returned (.int .i64 r)) ∧ w' = w := by
  go_enter Try.func42, Try.ntmps42
  go_wp2
  · go_ret
    exact ⟨⟨_, rfl⟩, rfl⟩
  · go_ret
    exact ⟨⟨_, rfl⟩, rfl⟩
  go_loop [0, 5] (fun t i => ∃ (k : Nat) (r : Int), k ≤ ss.length ∧ i = .int .i64 k ∧ t = .int .i64 r) (fun _ i => ss.length - (intOf i).toNat)
  case atStart => exact ⟨0, _, Nat.zero_le _, rfl, rfl⟩
  case round =>
    obtain ⟨k, r, hk, rfl, rfl⟩ := hrel
    by_cases hlt : k < ss.length
    · obtain ⟨b, off, rfl, hc⟩ := hs k hlt
      go_wp2
      · go_ret
        exact ⟨⟨_, rfl⟩, rfl⟩
      · go_ret
        exact ⟨⟨_, rfl⟩, rfl⟩
      · go_round
        case rel => exact ⟨k + 1, _, by omega, by go_num, rfl⟩
        case measure => simp [intOf]; omega
    · go_wp2
      go_ret
      exact ⟨⟨_, rfl⟩, rfl⟩

set_option maxHeartbeats 400000 in
theorem livenessSize_any (t : Int) (a1 a2 a3 : Option Addr) (c1 c2 c3 : Nat) (s1 s2 s3 : List ByteArray) (w : World) (h1 : Strs w a1 s1) (h2 : Strs w a2 s2) (h3 : Strs w a3 s3)
    (n1 : s1.length ≤ 9223372036854775807) (n2 : s2.length ≤ 9223372036854775807) (n3 : s3.length ≤ 9223372036854775807) :
    Calls Try.prog 24 #[.int .i64 t, .agg #[.slice a1 s1.length c1, .slice a2 s2.length c2, .slice a3 s3.length c3]] w fun e w' => (∃ r : Int, e = .returned (.int .i64 r)) ∧ Below w.heap.size w w' := by
  have g1 := h1.alloc
  have g2 := h2.alloc
  have g3 := h3.alloc
  clear h1 h2 h3
  go_enter Try.func24, Try.ntmps24
  go_wp2_with (go_at_call 42; refine (stringsSize_any _ _ _ _ _ (by first | exact g1 _ | exact g2 _ | exact g3 _) (by assumption)).mono ?_; rintro e w' ⟨⟨r, rfl⟩, rfl⟩)
  go_ret
  exact ⟨⟨_, rfl⟩, (Below.refl _ _).alloc (Nat.le_refl _) _⟩

set_option maxHeartbeats 400000 in
theorem pairSize_any (x y : ByteArray) (a1 a2 a3 a4 a5 a6 : Option Addr) (c1 c2 c3 c4 c5 c6 : Nat) (s1 s2 s3 s4 s5 s6 : List ByteArray) (w : World) (h1 : Strs w a1 s1) (h2 : Strs w a2 s2) (h3 : Strs w a3 s3) (h4 : Strs w a4 s4) (h5 : Strs w a5 s5) (h6 : Strs w a6 s6)
    (n1 : s1.length ≤ 9223372036854775807) (n2 : s2.length ≤ 9223372036854775807) (n3 : s3.length ≤ 9223372036854775807) (n4 : s4.length ≤ 9223372036854775807) (n5 : s5.length ≤ 9223372036854775807) (n6 : s6.length ≤ 9223372036854775807) :
    Calls Try.prog 16 #[.string x, .string y, .agg #[.slice a1 s1.length c1, .slice a2 s2.length c2, .slice a3 s3.length c3], .agg #[.slice a4 s4.length c4, .slice a5 s5.length c5, .slice a6 s6.length c6]] w fun e w' => (∃ r : Int, e = .returned (.int .i64 r)) ∧ Below w.heap.size w w' := by
  go_enter Try.func16, Try.ntmps16
  go_wp2_with fail
  any_goals
    go_ret
    exact ⟨⟨_, rfl⟩, by repeat (first | exact Below.refl _ _ | apply Below.drew | refine Below.alloc ?_ (by simp) _)⟩
  refine (livenessSize_any _ _ _ _ _ _ _ s1 s2 s3 _ ?_ ?_ ?_ n1 n2 n3).mono ?_
  · exact (h1.alloc _).alloc _
  · exact (h2.alloc _).alloc _
  · exact (h3.alloc _).alloc _
  rintro e w1 ⟨⟨r, rfl⟩, hb⟩
  obtain ⟨hc, hf⟩ := bcell hb
  go_wp2_with fail
  refine (livenessSize_any _ _ _ _ _ _ _ s4 s5 s6 _ ?_ ?_ ?_ n4 n5 n6).mono ?_
  · exact ((h4.alloc _).alloc _).below hb
  · exact ((h5.alloc _).alloc _).below hb
  · exact ((h6.alloc _).alloc _).below hb
  rintro e w2 ⟨⟨r2, rfl⟩, hb2⟩
  go_wp2_with fail
  go_ret
  refine ⟨⟨_, rfl⟩, ?_⟩
  exact (((Below.refl _ _).alloc (by simp) _).alloc (by simp) _).trans ((hb.mono (by simp; omega)).trans (hb2.mono (by have := hb.size; simp at this; omega)))

end Go.Proofs.Qxb6615949a
