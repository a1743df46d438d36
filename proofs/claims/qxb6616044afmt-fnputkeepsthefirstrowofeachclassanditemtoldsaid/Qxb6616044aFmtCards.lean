/-
  DERIVED. GIVEN WITH THE SEED: THE CARDS: each row of Qxb6616044aFmtRows.lean that lists a variable, with what it lists TIED to the program's text (the seventh form; the later family's looks); each row that meets fmt, with fmt's text TOLD by the authors' own Lean function (tested against real Go, not proved from fmt's source: count such statements apart). THE CARD IS WHAT COUNTS. Prove the row's statement (the work); the ties are given (Qxb6616044aFmtTie.lean); close each card by the builder's one call (the guide's Derived/Test/ToyasCard.lean, 'card_holds'). Laid BY PROGRAM, IN A SANDBOX (cutbox-door.mjs). By AI agents, Wed Nov 11 2026. No macro, syntax, notation, axiom, sorry.
-/
import Derived.Test.Qxb6616044aFmtRows
import GoSem.ClaimSeven
namespace Go.Proofs.Qxb6616044aFmt
namespace Rows

/-- THE TOLD CARD OF 'zzlaws_internal_input_b1.FnPutKeepsTheFirstRowOfEachClassAndItem'. -/
def fnPutKeepsTheFirstRowOfEachClassAndItemCard : Claim7 := { stood := { row := fnPutKeepsTheFirstRowOfEachClassAndItemRow, standIns := [], harness := (true, "8d109dc58df4b1675e1533e6babe388b8dd17c90512c2a446fe5e9af79e42276"), looks := false }, told := true, goes := false }
def FnPutKeepsTheFirstRowOfEachClassAndItemToldSaid : Prop := Claim7.holds Tryf.pinned (.plain (OpenSpec.ofChange fnPutKeepsTheFirstRowOfEachClassAndItemSpec)) fnPutKeepsTheFirstRowOfEachClassAndItemCard
/-- ITS FALSE NEIGHBOUR. Refute it at one input. -/
def FnPutKeepsTheFirstRowOfEachClassAndItemToldWrongFalsely : Prop := Claim7.holds Tryf.pinned (.plain (OpenSpec.ofChange fnPutKeepsTheFirstRowOfEachClassAndItemWrong)) fnPutKeepsTheFirstRowOfEachClassAndItemCard

/-- THE TOLD CARD OF 'zzlaws_internal_input_b1.FnPutRefusesEveryLaterRowOfAClassAndItem'. -/
def fnPutRefusesEveryLaterRowOfAClassAndItemCard : Claim7 := { stood := { row := fnPutRefusesEveryLaterRowOfAClassAndItemRow, standIns := [], harness := (true, "8d109dc58df4b1675e1533e6babe388b8dd17c90512c2a446fe5e9af79e42276"), looks := false }, told := true, goes := false }
def FnPutRefusesEveryLaterRowOfAClassAndItemToldSaid : Prop := Claim7.holds Tryf.pinned (.plain (OpenSpec.ofChange fnPutRefusesEveryLaterRowOfAClassAndItemSpec)) fnPutRefusesEveryLaterRowOfAClassAndItemCard
/-- ITS FALSE NEIGHBOUR. Refute it at one input. -/
def FnPutRefusesEveryLaterRowOfAClassAndItemToldWrongFalsely : Prop := Claim7.holds Tryf.pinned (.plain (OpenSpec.ofChange fnPutRefusesEveryLaterRowOfAClassAndItemWrong)) fnPutRefusesEveryLaterRowOfAClassAndItemCard
end Rows
end Go.Proofs.Qxb6616044aFmt
