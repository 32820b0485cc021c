/-
  No cell of these rows narrows 'for every input' (looked for: loops, veiled, ifaces, maps, wideKeys, modest, calm, conditions, laid).
  DERIVED. THE GIVEN ROWS OF THIS SEAT. 2 by the template 'for every input the law returns true; each argument reads behind the call as it read before'; 0 by the template 'total and deterministic' (their statements: YbulkeqoTotals.lean).
  GIVEN WITH THE SEED: the statements are not yours to turn. If you find one false, say at which input.
  Laid BY PROGRAM, IN A SANDBOX (cutbox-rows.mjs): the forced cells as the released guide's own fill.sh prints them over the translation ceeaf305b2b101f4… (all of the seat's roots in one cut). By AI agents, Wed Nov 11 2026. No macro, syntax, notation, axiom, sorry.
-/
import Derived.Test.YbulkeqoChecked
import GoSem.Claim
import GoSem.ClaimJoined
import GoSem.ClaimMapViews
import Derived.JoinedTies
import Derived.KernelRfl
namespace Go.Proofs.Ybulkeqo
/- THE CELL 'sum', in the pinned program and in every row, IS THE sha256 OF THE DUMP (.gsa) THAT YbulkeqoProg.lean LOADS. Nothing in Lean hashes anything: it is a label: what it is worth is what the hold of that sum in a sandbox is worth. -/
noncomputable def Yba.pinned : Pinned := { name := "ybulkeqo", sum := "ceeaf305b2b101f4eae8409fc2f743a279d22a9c1957043973a8f4f4784caafd", checked := Yba.checked }
namespace Rows
def none {H : Type} : Left H := { results := [], args := [] }

/-- 'jsontree.LawS0274BExact': WHATEVER THE INPUT: true; the input reads as it did. -/
def lawS0274BExactSpec : ChangeSpec := { name := "lawS0274BExact", fn := fun _ => fun
  | [d] => { results := [.lit (.bool true)], args := [d] }
  | _ => none }
def lawS0274BExactRow : OpenClaim := { program := "ybulkeqo", sum := "ceeaf305b2b101f4eae8409fc2f743a279d22a9c1957043973a8f4f4784caafd", func := "example.com/pathfold/internal/jsontree.LawS0274BExact", spec := "lawS0274BExact", apart := false }
def LawS0274BExactSaid : Prop := lawS0274BExactRow.holds Yba.pinned (OpenSpec.ofChange lawS0274BExactSpec)

/-- ITS FALSE NEIGHBOUR: 'it returns false'. Refute it at one input. -/
def lawS0274BExactWrong : ChangeSpec := { name := "lawS0274BExact", fn := fun _ => fun
  | [d] => { results := [.lit (.bool false)], args := [d] }
  | _ => none }
def LawS0274BExactWrongFalsely : Prop := lawS0274BExactRow.holds Yba.pinned (OpenSpec.ofChange lawS0274BExactWrong)

/-- 'jsontree.LawS0274BEnds': WHATEVER THE INPUT: true; the input reads as it did. -/
def lawS0274BEndsSpec : ChangeSpec := { name := "lawS0274BEnds", fn := fun _ => fun
  | [d1, d2] => { results := [.lit (.bool true)], args := [d1, d2] }
  | _ => none }
def lawS0274BEndsRow : OpenClaim := { program := "ybulkeqo", sum := "ceeaf305b2b101f4eae8409fc2f743a279d22a9c1957043973a8f4f4784caafd", func := "example.com/pathfold/internal/jsontree.LawS0274BEnds", spec := "lawS0274BEnds", apart := false }
def LawS0274BEndsSaid : Prop := lawS0274BEndsRow.holds Yba.pinned (OpenSpec.ofChange lawS0274BEndsSpec)

/-- ITS FALSE NEIGHBOUR: 'it returns false'. Refute it at one input. -/
def lawS0274BEndsWrong : ChangeSpec := { name := "lawS0274BEnds", fn := fun _ => fun
  | [d1, d2] => { results := [.lit (.bool false)], args := [d1, d2] }
  | _ => none }
def LawS0274BEndsWrongFalsely : Prop := lawS0274BEndsRow.holds Yba.pinned (OpenSpec.ofChange lawS0274BEndsWrong)

end Rows
end Go.Proofs.Ybulkeqo
