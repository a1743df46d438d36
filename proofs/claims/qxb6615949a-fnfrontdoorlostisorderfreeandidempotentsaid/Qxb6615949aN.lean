import Derived.Test.Qxb6615949aL
namespace Go.Proofs.Qxb6615949a
open Go.RowKit

/-- The offset of the chosen liveness in the front door. -/
def selOff (b : Bool) : Nat := if b then 6 else 7

theorem liveOf_any (b : Bool) (f p : Nat) (a : Option Addr) (n c : Nat) (w : World) (hf : w.cell? ⟨f, selOff b, none⟩ = some (.pointer (some ⟨p, 0, none⟩))) (hl : w.cell? ⟨p, 3, none⟩ = some (.slice a n c)) :
    Calls Try.prog 36 #[.pointer (some ⟨f, 0, none⟩), .bool b] w fun e w' => e = .returned (.slice a n c) ∧ w' = w := by
  cases b <;> simp only [selOff, if_true, if_false, Bool.false_eq_true] at hf <;>
  · go_enter Try.func36, Try.ntmps36
    go_wp2
    go_ret
    exact ⟨rfl, rfl⟩

theorem idsOf_any (b : Bool) (f p : Nat) (a : Option Addr) (n c : Nat) (w : World) (hf : w.cell? ⟨f, selOff b, none⟩ = some (.pointer (some ⟨p, 0, none⟩))) (hl : w.cell? ⟨p, 0, none⟩ = some (.slice a n c)) :
    Calls Try.prog 37 #[.pointer (some ⟨f, 0, none⟩), .bool b] w fun e w' => e = .returned (.slice a n c) ∧ w' = w := by
  cases b <;> simp only [selOff, if_true, if_false, Bool.false_eq_true] at hf <;>
  · go_enter Try.func37, Try.ntmps37
    go_wp2
    go_ret
    exact ⟨rfl, rfl⟩

theorem lostHas_any (b : Bool) (f p m : Nat) (x : ByteArray) (keys : List ByteArray) (w : World) (hf : w.cell? ⟨f, selOff b, none⟩ = some (.pointer (some ⟨p, 0, none⟩))) (hl : w.cell? ⟨p, 2, none⟩ = some (.map (some m))) (hm : LostAt w m keys) (hx : x.size ≤ maxLen) (hk : x ∈ keys) :
    Calls Try.prog 38 #[.pointer (some ⟨f, 0, none⟩), .bool b, .string x] w fun e w' => e = .returned (.bool true) ∧ w' = w := by
  have hrun := hm.get hx hk
  clear hm
  cases b <;> simp only [selOff, if_true, if_false, Bool.false_eq_true] at hf <;>
  · go_enter Try.func38, Try.ntmps38
    go_wp2
    go_ret
    exact ⟨rfl, rfl⟩

theorem lostLen_any (b : Bool) (f p m : Nat) (keys : List ByteArray) (w : World) (hf : w.cell? ⟨f, selOff b, none⟩ = some (.pointer (some ⟨p, 0, none⟩))) (hl : w.cell? ⟨p, 2, none⟩ = some (.map (some m))) (hm : LostAt w m keys) :
    Calls Try.prog 39 #[.pointer (some ⟨f, 0, none⟩), .bool b] w fun e w' => e = .returned (.int .i64 (distinct keys)) ∧ w' = w := by
  have hrun := hm.len
  clear hm
  cases b <;> simp only [selOff, if_true, if_false, Bool.false_eq_true] at hf <;>
  · go_enter Try.func39, Try.ntmps39
    go_wp2
    go_ret
    exact ⟨rfl, rfl⟩

end Go.Proofs.Qxb6615949a
