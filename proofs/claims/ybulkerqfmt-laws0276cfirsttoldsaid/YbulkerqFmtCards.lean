/-
  DERIVED. GIVEN WITH THE SEED: THE CARDS: each row of YbulkerqFmtRows.lean that lists a variable, with what it lists TIED to the program's text (the seventh form; the later family's looks); each row that meets fmt, with fmt's text TOLD by the authors' own Lean function (tested against real Go, not proved from fmt's source: count such statements apart). THE CARD IS WHAT COUNTS. Prove the row's statement (the work); the ties are given (YbulkerqFmtTie.lean); close each card by the builder's one call (the guide's Derived/Test/ToyasCard.lean, 'card_holds'). Laid BY PROGRAM, IN A SANDBOX (cutbox-door.mjs). By AI agents, Wed Nov 11 2026. No macro, syntax, notation, axiom, sorry.
-/
import Derived.Test.YbulkerqFmtRows
import GoSem.ClaimSeven
namespace Go.Proofs.YbulkerqFmt
namespace Rows

/-- THE TOLD CARD OF 'flagholm.LawS0276CFirst'. -/
def lawS0276CFirstCard : Claim7 := { stood := { row := lawS0276CFirstRow, standIns := [], harness := (true, "b7f86f2810455e4d94829593287dd7b0159f589453ea44c3bc1e15a655c80ddb"), looks := true }, told := true, goes := false }
def LawS0276CFirstToldSaid : Prop := Claim7.holds Ybaf.pinned (.plain (OpenSpec.ofChange lawS0276CFirstSpec)) lawS0276CFirstCard
/-- ITS FALSE NEIGHBOUR. Refute it at one input. -/
def LawS0276CFirstToldWrongFalsely : Prop := Claim7.holds Ybaf.pinned (.plain (OpenSpec.ofChange lawS0276CFirstWrong)) lawS0276CFirstCard
end Rows
end Go.Proofs.YbulkerqFmt
