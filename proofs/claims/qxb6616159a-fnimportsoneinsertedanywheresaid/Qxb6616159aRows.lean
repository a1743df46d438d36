/-
  No cell of these rows narrows 'for every input' (looked for: loops, veiled, ifaces, maps, wideKeys, modest, calm, conditions, laid).
  DERIVED. THE GIVEN ROWS OF THIS SEAT. 2 by the template 'for every input the law returns true; each argument reads behind the call as it read before'; 0 by the template 'total and deterministic' (their statements: Qxb6616159aTotals.lean).
  GIVEN WITH THE SEED: the statements are not yours to turn. If you find one false, say at which input.
  Laid BY PROGRAM, IN A SANDBOX (cutbox-rows.mjs): the forced cells as the released guide's own fill.sh prints them over the translation cfa5fc62083c232a… (all of the seat's roots in one cut). By AI agents, Wed Nov 11 2026. No macro, syntax, notation, axiom, sorry.
-/
import Derived.Test.Qxb6616159aChecked
import GoSem.Claim
import GoSem.ClaimJoined
import GoSem.ClaimMapViews
import Derived.JoinedTies
import Derived.KernelRfl
namespace Go.Proofs.Qxb6616159a
/- THE CELL 'sum', in the pinned program and in every row, IS THE sha256 OF THE DUMP (.gsa) THAT Qxb6616159aProg.lean LOADS. Nothing in Lean hashes anything: it is a label: what it is worth is what the hold of that sum in a sandbox is worth. -/
noncomputable def Try.pinned : Pinned := { name := "qxb6616159a", sum := "cfa5fc62083c232a02536f227d62cbeba8f2d492ac0558982fd01536c484a0c6", checked := Try.checked }
namespace Rows
def none {H : Type} : Left H := { results := [], args := [] }

/-- 'zzlaws_chart_b1.FnImportsSplitAtAnyCut': WHATEVER THE INPUT: true; the input reads as it did. -/
def fnImportsSplitAtAnyCutSpec : ChangeSpec := { name := "fnImportsSplitAtAnyCut", fn := fun _ => fun
  | [d1, d2] => { results := [.lit (.bool true)], args := [d1, d2] }
  | _ => none }
def fnImportsSplitAtAnyCutRow : OpenClaim := { program := "qxb6616159a", sum := "cfa5fc62083c232a02536f227d62cbeba8f2d492ac0558982fd01536c484a0c6", func := "example.com/coxswain/coxswain/zzlaws_chart_b1.FnImportsSplitAtAnyCut", spec := "fnImportsSplitAtAnyCut", apart := false }
def FnImportsSplitAtAnyCutSaid : Prop := fnImportsSplitAtAnyCutRow.holds Try.pinned (OpenSpec.ofChange fnImportsSplitAtAnyCutSpec)

/-- ITS FALSE NEIGHBOUR: 'it returns false'. Refute it at one input. -/
def fnImportsSplitAtAnyCutWrong : ChangeSpec := { name := "fnImportsSplitAtAnyCut", fn := fun _ => fun
  | [d1, d2] => { results := [.lit (.bool false)], args := [d1, d2] }
  | _ => none }
def FnImportsSplitAtAnyCutWrongFalsely : Prop := fnImportsSplitAtAnyCutRow.holds Try.pinned (OpenSpec.ofChange fnImportsSplitAtAnyCutWrong)

/-- 'zzlaws_chart_b1.FnImportsOneInsertedAnywhere': WHATEVER THE INPUT: true; the input reads as it did. -/
def fnImportsOneInsertedAnywhereSpec : ChangeSpec := { name := "fnImportsOneInsertedAnywhere", fn := fun _ => fun
  | [d1, d2, d3] => { results := [.lit (.bool true)], args := [d1, d2, d3] }
  | _ => none }
def fnImportsOneInsertedAnywhereRow : OpenClaim := { program := "qxb6616159a", sum := "cfa5fc62083c232a02536f227d62cbeba8f2d492ac0558982fd01536c484a0c6", func := "example.com/coxswain/coxswain/zzlaws_chart_b1.FnImportsOneInsertedAnywhere", spec := "fnImportsOneInsertedAnywhere", apart := false }
def FnImportsOneInsertedAnywhereSaid : Prop := fnImportsOneInsertedAnywhereRow.holds Try.pinned (OpenSpec.ofChange fnImportsOneInsertedAnywhereSpec)

/-- ITS FALSE NEIGHBOUR: 'it returns false'. Refute it at one input. -/
def fnImportsOneInsertedAnywhereWrong : ChangeSpec := { name := "fnImportsOneInsertedAnywhere", fn := fun _ => fun
  | [d1, d2, d3] => { results := [.lit (.bool false)], args := [d1, d2, d3] }
  | _ => none }
def FnImportsOneInsertedAnywhereWrongFalsely : Prop := fnImportsOneInsertedAnywhereRow.holds Try.pinned (OpenSpec.ofChange fnImportsOneInsertedAnywhereWrong)

end Rows
end Go.Proofs.Qxb6616159a
