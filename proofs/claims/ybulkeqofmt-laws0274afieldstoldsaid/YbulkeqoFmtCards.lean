/-
  DERIVED. GIVEN WITH THE SEED: THE CARDS: each row of YbulkeqoFmtRows.lean that lists a variable, with what it lists TIED to the program's text (the seventh form; the later family's looks); each row that meets fmt, with fmt's text TOLD by the authors' own Lean function (tested against real Go, not proved from fmt's source: count such statements apart). THE CARD IS WHAT COUNTS. Prove the row's statement (the work); the ties are given (YbulkeqoFmtTie.lean); close each card by the builder's one call (the guide's Derived/Test/ToyasCard.lean, 'card_holds'). Laid BY PROGRAM, IN A SANDBOX (cutbox-door.mjs). By AI agents, Wed Nov 11 2026. No macro, syntax, notation, axiom, sorry.
-/
import Derived.Test.YbulkeqoFmtRows
import GoSem.ClaimSeven
namespace Go.Proofs.YbulkeqoFmt
namespace Rows

/-- THE TOLD AND TIED CARD OF 'syntax.LawS0274AFields'. -/
def lawS0274AFieldsCard : Claim7 := { stood := { row := lawS0274AFieldsRow, standIns := [], harness := (true, "a1b2f1b1783586cc4dc0b9f54118393b61922e596622ca7657359328c388682d"), looks := true }, told := true, laidByText := true, laidKinds := [.mapped, .mapped], laidTests := true, laidLooks := .later, goes := false }
def LawS0274AFieldsToldSaid : Prop := Claim7.holds Ybaf.pinned (.plain (OpenSpec.ofChange lawS0274AFieldsSpec)) lawS0274AFieldsCard
/-- ITS FALSE NEIGHBOUR. Refute it at one input. -/
def LawS0274AFieldsToldWrongFalsely : Prop := Claim7.holds Ybaf.pinned (.plain (OpenSpec.ofChange lawS0274AFieldsWrong)) lawS0274AFieldsCard

/-- THE TOLD AND TIED CARD OF 'syntax.LawS0274AUnclosed'. -/
def lawS0274AUnclosedCard : Claim7 := { stood := { row := lawS0274AUnclosedRow, standIns := [], harness := (true, "a1b2f1b1783586cc4dc0b9f54118393b61922e596622ca7657359328c388682d"), looks := true }, told := true, laidByText := true, laidKinds := [.mapped, .mapped], laidTests := true, laidLooks := .later, goes := false }
def LawS0274AUnclosedToldSaid : Prop := Claim7.holds Ybaf.pinned (.plain (OpenSpec.ofChange lawS0274AUnclosedSpec)) lawS0274AUnclosedCard
/-- ITS FALSE NEIGHBOUR. Refute it at one input. -/
def LawS0274AUnclosedToldWrongFalsely : Prop := Claim7.holds Ybaf.pinned (.plain (OpenSpec.ofChange lawS0274AUnclosedWrong)) lawS0274AUnclosedCard
end Rows
end Go.Proofs.YbulkeqoFmt
