/-
  DERIVED. GIVEN WITH THE SEED: THE CARDS: each row of YbulkeuwFmtRows.lean that lists a variable, with what it lists TIED to the program's text (the seventh form; the later family's looks); each row that meets fmt, with fmt's text TOLD by the authors' own Lean function (tested against real Go, not proved from fmt's source: count such statements apart). THE CARD IS WHAT COUNTS. Prove the row's statement (the work); the ties are given (YbulkeuwFmtTie.lean); close each card by the builder's one call (the guide's Derived/Test/ToyasCard.lean, 'card_holds'). Laid BY PROGRAM, IN A SANDBOX (cutbox-door.mjs). By AI agents, Wed Nov 11 2026. No macro, syntax, notation, axiom, sorry.
-/
import Derived.Test.YbulkeuwFmtRows
import GoSem.ClaimSeven
namespace Go.Proofs.YbulkeuwFmt
namespace Rows

/-- THE TOLD CARD OF 'humble-wiring.LawS0282BRecords'. -/
def lawS0282BRecordsCard : Claim7 := { stood := { row := lawS0282BRecordsRow, standIns := [], harness := (true, "f95cd85f1ab2d42f9c7be642b5310e8fcef57a9f965adbabc244598b095f6f1c"), looks := false }, told := true, goes := false }
def LawS0282BRecordsToldSaid : Prop := Claim7.holds Ybaf.pinned (.plain (OpenSpec.ofChange lawS0282BRecordsSpec)) lawS0282BRecordsCard
/-- ITS FALSE NEIGHBOUR. Refute it at one input. -/
def LawS0282BRecordsToldWrongFalsely : Prop := Claim7.holds Ybaf.pinned (.plain (OpenSpec.ofChange lawS0282BRecordsWrong)) lawS0282BRecordsCard
end Rows
end Go.Proofs.YbulkeuwFmt
