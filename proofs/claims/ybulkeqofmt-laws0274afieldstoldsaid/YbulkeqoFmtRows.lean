/-
  NARROWER THAN 'FOR EVERY INPUT', by the rows' own cells (each row's printed sentence says how): LawS0274AFields: maps, laid · LawS0274AUnclosed: maps, laid.
  DERIVED. THE GIVEN ROWS OF THIS SEAT. 2 by the template 'for every input the law returns true; each argument reads behind the call as it read before'; 0 by the template 'total and deterministic' (their statements: YbulkeqoFmtTotals.lean).
  GIVEN WITH THE SEED: the statements are not yours to turn. If you find one false, say at which input.
  Laid BY PROGRAM, IN A SANDBOX (cutbox-rows.mjs): the forced cells as the released guide's own fill.sh prints them over the translation 77a58331f86c0ecf… (all of the seat's roots in one cut). By AI agents, Wed Nov 11 2026. No macro, syntax, notation, axiom, sorry.
-/
import Derived.Test.YbulkeqoFmtChecked
import GoSem.Claim
import GoSem.ClaimJoined
import GoSem.ClaimMapViews
import Derived.JoinedTies
import Derived.KernelRfl
namespace Go.Proofs.YbulkeqoFmt
/- THE CELL 'sum', in the pinned program and in every row, IS THE sha256 OF THE DUMP (.gsa) THAT YbulkeqoFmtProg.lean LOADS. Nothing in Lean hashes anything: it is a label: what it is worth is what the hold of that sum in a sandbox is worth. -/
noncomputable def Ybaf.pinned : Pinned := { name := "ybulkeqofmt", sum := "77a58331f86c0ecf5f0e8f91d53d8aa2fdacdd2c7e022dfe120ed86290d4a3be", checked := Ybaf.checked }
namespace Rows
def none {H : Type} : Left H := { results := [], args := [] }

/- WHAT THE LISTED PACKAGE-LEVEL VARIABLES READ AS WHEN THE CALL BEGINS. Each datum BY PROGRAM (the guide's laid-datum.mjs) off the statement by which the dump's own 'gosem.cut.vars' lays the variable. In a bare row this is a premise. The card (YbulkeqoFmtCards.lean) ties it to the program's text. -/
def laid_example_com_pathfold_internal_syntax_infixPrec {H : Type} : DataW H := .map [(.string [33, 61], .lit (.int .i64 5)), (.string [33, 126], .lit (.int .i64 5)), (.string [38], .lit (.int .i64 9)), (.string [42], .lit (.int .i64 10)), (.string [43], .lit (.int .i64 9)), (.string [45], .lit (.int .i64 9)), (.string [46], .lit (.int .i64 13)), (.string [47], .lit (.int .i64 10)), (.string [60], .lit (.int .i64 6)), (.string [60, 61], .lit (.int .i64 6)), (.string [61], .lit (.int .i64 5)), (.string [62], .lit (.int .i64 6)), (.string [62, 61], .lit (.int .i64 6)), (.string [91], .lit (.int .i64 12)), (.string [97, 110, 100], .lit (.int .i64 3)), (.string [97, 115], .lit (.int .i64 8)), (.string [99, 111, 110, 116, 97, 105, 110, 115], .lit (.int .i64 4)), (.string [100, 105, 118], .lit (.int .i64 10)), (.string [105, 109, 112, 108, 105, 101, 115], .lit (.int .i64 1)), (.string [105, 110], .lit (.int .i64 4)), (.string [105, 115], .lit (.int .i64 8)), (.string [109, 111, 100], .lit (.int .i64 10)), (.string [111, 114], .lit (.int .i64 2)), (.string [120, 111, 114], .lit (.int .i64 2)), (.string [124], .lit (.int .i64 7)), (.string [126], .lit (.int .i64 5))]
def laid_example_com_pathfold_internal_syntax_calendarUnits {H : Type} : DataW H := .map [(.string [100, 97, 121], .lit (.bool true)), (.string [100, 97, 121, 115], .lit (.bool true)), (.string [104, 111, 117, 114], .lit (.bool true)), (.string [104, 111, 117, 114, 115], .lit (.bool true)), (.string [109, 105, 108, 108, 105, 115, 101, 99, 111, 110, 100], .lit (.bool true)), (.string [109, 105, 108, 108, 105, 115, 101, 99, 111, 110, 100, 115], .lit (.bool true)), (.string [109, 105, 110, 117, 116, 101], .lit (.bool true)), (.string [109, 105, 110, 117, 116, 101, 115], .lit (.bool true)), (.string [109, 111, 110, 116, 104], .lit (.bool true)), (.string [109, 111, 110, 116, 104, 115], .lit (.bool true)), (.string [115, 101, 99, 111, 110, 100], .lit (.bool true)), (.string [115, 101, 99, 111, 110, 100, 115], .lit (.bool true)), (.string [119, 101, 101, 107], .lit (.bool true)), (.string [119, 101, 101, 107, 115], .lit (.bool true)), (.string [121, 101, 97, 114], .lit (.bool true)), (.string [121, 101, 97, 114, 115], .lit (.bool true))]

/-- 'syntax.LawS0274AFields': WHATEVER THE INPUT: true; the input reads as it did. -/
def lawS0274AFieldsSpec : ChangeSpec := { name := "lawS0274AFields", vars := ["example.com/pathfold/internal/syntax.infixPrec", "example.com/pathfold/internal/syntax.calendarUnits"], fn := fun _ => fun
  | [d1, d2, d3, g1, g2] => { results := [.lit (.bool true)], args := [d1, d2, d3], vars := [g1, g2] }
  | _ => none }
def lawS0274AFieldsRow : OpenClaim := { program := "ybulkeqofmt", sum := "77a58331f86c0ecf5f0e8f91d53d8aa2fdacdd2c7e022dfe120ed86290d4a3be", func := "example.com/pathfold/internal/syntax.LawS0274AFields", spec := "lawS0274AFields", stops := ["fmt.Sprintf, its operands' methods called"], inPlace := ["fmt.Sprintf"], unfollowed := true, recurses := true, named := ["example.com/pathfold/internal/syntax.infixPrec", "example.com/pathfold/internal/syntax.calendarUnits"], maps := true, apart := false, laid := [("example.com/pathfold/internal/syntax.infixPrec", laid_example_com_pathfold_internal_syntax_infixPrec), ("example.com/pathfold/internal/syntax.calendarUnits", laid_example_com_pathfold_internal_syntax_calendarUnits)] }
/-- NO THEOREM (fmt's text is open here; it may be false): for the released tool's asking of the row's closed facts alone. THE STATEMENT IS 'LawS0274AFieldsToldSaid' (YbulkeqoFmtCards.lean). -/
def LawS0274AFieldsFormAsk : Prop := lawS0274AFieldsRow.holds Ybaf.pinned (OpenSpec.ofChange lawS0274AFieldsSpec)

/-- ITS FALSE NEIGHBOUR: 'it returns false'. Refute it at one input. -/
def lawS0274AFieldsWrong : ChangeSpec := { name := "lawS0274AFields", vars := ["example.com/pathfold/internal/syntax.infixPrec", "example.com/pathfold/internal/syntax.calendarUnits"], fn := fun _ => fun
  | [d1, d2, d3, g1, g2] => { results := [.lit (.bool false)], args := [d1, d2, d3], vars := [g1, g2] }
  | _ => none }
def LawS0274AFieldsWrongFormAsk : Prop := lawS0274AFieldsRow.holds Ybaf.pinned (OpenSpec.ofChange lawS0274AFieldsWrong)

/-- 'syntax.LawS0274AUnclosed': WHATEVER THE INPUT: true; the input reads as it did. -/
def lawS0274AUnclosedSpec : ChangeSpec := { name := "lawS0274AUnclosed", vars := ["example.com/pathfold/internal/syntax.infixPrec", "example.com/pathfold/internal/syntax.calendarUnits"], fn := fun _ => fun
  | [d1, d2, d3, g1, g2] => { results := [.lit (.bool true)], args := [d1, d2, d3], vars := [g1, g2] }
  | _ => none }
def lawS0274AUnclosedRow : OpenClaim := { program := "ybulkeqofmt", sum := "77a58331f86c0ecf5f0e8f91d53d8aa2fdacdd2c7e022dfe120ed86290d4a3be", func := "example.com/pathfold/internal/syntax.LawS0274AUnclosed", spec := "lawS0274AUnclosed", stops := ["fmt.Sprintf, its operands' methods called"], inPlace := ["fmt.Sprintf"], unfollowed := true, recurses := true, named := ["example.com/pathfold/internal/syntax.infixPrec", "example.com/pathfold/internal/syntax.calendarUnits"], maps := true, apart := false, laid := [("example.com/pathfold/internal/syntax.infixPrec", laid_example_com_pathfold_internal_syntax_infixPrec), ("example.com/pathfold/internal/syntax.calendarUnits", laid_example_com_pathfold_internal_syntax_calendarUnits)] }
/-- NO THEOREM (fmt's text is open here; it may be false): for the released tool's asking of the row's closed facts alone. THE STATEMENT IS 'LawS0274AUnclosedToldSaid' (YbulkeqoFmtCards.lean). -/
def LawS0274AUnclosedFormAsk : Prop := lawS0274AUnclosedRow.holds Ybaf.pinned (OpenSpec.ofChange lawS0274AUnclosedSpec)

/-- ITS FALSE NEIGHBOUR: 'it returns false'. Refute it at one input. -/
def lawS0274AUnclosedWrong : ChangeSpec := { name := "lawS0274AUnclosed", vars := ["example.com/pathfold/internal/syntax.infixPrec", "example.com/pathfold/internal/syntax.calendarUnits"], fn := fun _ => fun
  | [d1, d2, d3, g1, g2] => { results := [.lit (.bool false)], args := [d1, d2, d3], vars := [g1, g2] }
  | _ => none }
def LawS0274AUnclosedWrongFormAsk : Prop := lawS0274AUnclosedRow.holds Ybaf.pinned (OpenSpec.ofChange lawS0274AUnclosedWrong)

end Rows
end Go.Proofs.YbulkeqoFmt
