/-
  NARROWER THAN 'FOR EVERY INPUT', by the rows' own cells (each row's printed sentence says how): FnPutKeepsTheFirstRowOfEachClassAndItem: maps · FnPutRefusesEveryLaterRowOfAClassAndItem: maps.
  DERIVED. THE GIVEN ROWS OF THIS SEAT. 2 by the template 'for every input the law returns true; each argument reads behind the call as it read before'; 0 by the template 'total and deterministic' (their statements: Qxb6616044aFmtTotals.lean).
  GIVEN WITH THE SEED: the statements are not yours to turn. If you find one false, say at which input.
  Laid BY PROGRAM, IN A SANDBOX (cutbox-rows.mjs): the forced cells as the released guide's own fill.sh prints them over the translation 2162ddb5d586a8a8… (all of the seat's roots in one cut). By AI agents, Wed Nov 11 2026. No macro, syntax, notation, axiom, sorry.
-/
import Derived.Test.Qxb6616044aFmtChecked
import GoSem.Claim
import GoSem.ClaimJoined
import GoSem.ClaimMapViews
import Derived.JoinedTies
import Derived.KernelRfl
namespace Go.Proofs.Qxb6616044aFmt
/- THE CELL 'sum', in the pinned program and in every row, IS THE sha256 OF THE DUMP (.gsa) THAT Qxb6616044aFmtProg.lean LOADS. Nothing in Lean hashes anything: it is a label: what it is worth is what the hold of that sum in a sandbox is worth. -/
noncomputable def Tryf.pinned : Pinned := { name := "qxb6616044afmt", sum := "2162ddb5d586a8a8176727ed48ef4cec7f8dd918858a3404de9e9080235ffcb7", checked := Tryf.checked }
namespace Rows
def none {H : Type} : Left H := { results := [], args := [] }

/-- 'zzlaws_internal_input_b1.FnPutKeepsTheFirstRowOfEachClassAndItem': WHATEVER THE INPUT: true; the input reads as it did. -/
def fnPutKeepsTheFirstRowOfEachClassAndItemSpec : ChangeSpec := { name := "fnPutKeepsTheFirstRowOfEachClassAndItem", fn := fun _ => fun
  | [d1, d2, d3, d4, d5, d6] => { results := [.lit (.bool true)], args := [d1, d2, d3, d4, d5, d6] }
  | _ => none }
def fnPutKeepsTheFirstRowOfEachClassAndItemRow : OpenClaim := { program := "qxb6616044afmt", sum := "2162ddb5d586a8a8176727ed48ef4cec7f8dd918858a3404de9e9080235ffcb7", func := "example.com/tuoguan/tuoguan/zzlaws_internal_input_b1.FnPutKeepsTheFirstRowOfEachClassAndItem", spec := "fnPutKeepsTheFirstRowOfEachClassAndItem", stops := ["fmt.errorf"], inPlace := ["fmt.errorf"], maps := true, plainKeys := false, apart := false }
/-- NO THEOREM (fmt's text is open here; it may be false): for the released tool's asking of the row's closed facts alone. THE STATEMENT IS 'FnPutKeepsTheFirstRowOfEachClassAndItemToldSaid' (Qxb6616044aFmtCards.lean). -/
def FnPutKeepsTheFirstRowOfEachClassAndItemFormAsk : Prop := fnPutKeepsTheFirstRowOfEachClassAndItemRow.holds Tryf.pinned (OpenSpec.ofChange fnPutKeepsTheFirstRowOfEachClassAndItemSpec)

/-- ITS FALSE NEIGHBOUR: 'it returns false'. Refute it at one input. -/
def fnPutKeepsTheFirstRowOfEachClassAndItemWrong : ChangeSpec := { name := "fnPutKeepsTheFirstRowOfEachClassAndItem", fn := fun _ => fun
  | [d1, d2, d3, d4, d5, d6] => { results := [.lit (.bool false)], args := [d1, d2, d3, d4, d5, d6] }
  | _ => none }
def FnPutKeepsTheFirstRowOfEachClassAndItemWrongFormAsk : Prop := fnPutKeepsTheFirstRowOfEachClassAndItemRow.holds Tryf.pinned (OpenSpec.ofChange fnPutKeepsTheFirstRowOfEachClassAndItemWrong)

/-- 'zzlaws_internal_input_b1.FnPutRefusesEveryLaterRowOfAClassAndItem': WHATEVER THE INPUT: true; the input reads as it did. -/
def fnPutRefusesEveryLaterRowOfAClassAndItemSpec : ChangeSpec := { name := "fnPutRefusesEveryLaterRowOfAClassAndItem", fn := fun _ => fun
  | [d1, d2, d3, d4, d5, d6] => { results := [.lit (.bool true)], args := [d1, d2, d3, d4, d5, d6] }
  | _ => none }
def fnPutRefusesEveryLaterRowOfAClassAndItemRow : OpenClaim := { program := "qxb6616044afmt", sum := "2162ddb5d586a8a8176727ed48ef4cec7f8dd918858a3404de9e9080235ffcb7", func := "example.com/tuoguan/tuoguan/zzlaws_internal_input_b1.FnPutRefusesEveryLaterRowOfAClassAndItem", spec := "fnPutRefusesEveryLaterRowOfAClassAndItem", stops := ["fmt.errorf"], inPlace := ["fmt.errorf"], maps := true, plainKeys := false, apart := false }
/-- NO THEOREM (fmt's text is open here; it may be false): for the released tool's asking of the row's closed facts alone. THE STATEMENT IS 'FnPutRefusesEveryLaterRowOfAClassAndItemToldSaid' (Qxb6616044aFmtCards.lean). -/
def FnPutRefusesEveryLaterRowOfAClassAndItemFormAsk : Prop := fnPutRefusesEveryLaterRowOfAClassAndItemRow.holds Tryf.pinned (OpenSpec.ofChange fnPutRefusesEveryLaterRowOfAClassAndItemSpec)

/-- ITS FALSE NEIGHBOUR: 'it returns false'. Refute it at one input. -/
def fnPutRefusesEveryLaterRowOfAClassAndItemWrong : ChangeSpec := { name := "fnPutRefusesEveryLaterRowOfAClassAndItem", fn := fun _ => fun
  | [d1, d2, d3, d4, d5, d6] => { results := [.lit (.bool false)], args := [d1, d2, d3, d4, d5, d6] }
  | _ => none }
def FnPutRefusesEveryLaterRowOfAClassAndItemWrongFormAsk : Prop := fnPutRefusesEveryLaterRowOfAClassAndItemRow.holds Tryf.pinned (OpenSpec.ofChange fnPutRefusesEveryLaterRowOfAClassAndItemWrong)

end Rows
end Go.Proofs.Qxb6616044aFmt
