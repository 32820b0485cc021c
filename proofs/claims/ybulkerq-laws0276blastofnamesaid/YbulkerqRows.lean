/-
  No cell of these rows narrows 'for every input' (looked for: loops, veiled, ifaces, maps, wideKeys, modest, calm, conditions, laid).
  DERIVED. THE GIVEN ROWS OF THIS SEAT. 2 by the template 'for every input the law returns true; each argument reads behind the call as it read before'; 0 by the template 'total and deterministic' (their statements: YbulkerqTotals.lean).
  GIVEN WITH THE SEED: the statements are not yours to turn. If you find one false, say at which input.
  Laid BY PROGRAM, IN A SANDBOX (cutbox-rows.mjs): the forced cells as the released guide's own fill.sh prints them over the translation f8d2af2e9bc2f6fb… (all of the seat's roots in one cut). By AI agents, Wed Nov 11 2026. No macro, syntax, notation, axiom, sorry.
-/
import Derived.Test.YbulkerqChecked
import GoSem.Claim
import GoSem.ClaimJoined
import GoSem.ClaimMapViews
import Derived.JoinedTies
import Derived.KernelRfl
namespace Go.Proofs.Ybulkerq
/- THE CELL 'sum', in the pinned program and in every row, IS THE sha256 OF THE DUMP (.gsa) THAT YbulkerqProg.lean LOADS. Nothing in Lean hashes anything: it is a label: what it is worth is what the hold of that sum in a sandbox is worth. -/
noncomputable def Yba.pinned : Pinned := { name := "ybulkerq", sum := "f8d2af2e9bc2f6fb05ebe7019620c2f3e9ebbc5e2a4f4c4c18eb37758be0c1e7", checked := Yba.checked }
namespace Rows
def none {H : Type} : Left H := { results := [], args := [] }

/-- 'flagholm.LawS0276BLastOfName': WHATEVER THE INPUT: true; the input reads as it did. -/
def lawS0276BLastOfNameSpec : ChangeSpec := { name := "lawS0276BLastOfName", fn := fun _ => fun
  | [d1, d2] => { results := [.lit (.bool true)], args := [d1, d2] }
  | _ => none }
def lawS0276BLastOfNameRow : OpenClaim := { program := "ybulkerq", sum := "f8d2af2e9bc2f6fb05ebe7019620c2f3e9ebbc5e2a4f4c4c18eb37758be0c1e7", func := "example.com/flagholm/flagholm.LawS0276BLastOfName", spec := "lawS0276BLastOfName", apart := false }
def LawS0276BLastOfNameSaid : Prop := lawS0276BLastOfNameRow.holds Yba.pinned (OpenSpec.ofChange lawS0276BLastOfNameSpec)

/-- ITS FALSE NEIGHBOUR: 'it returns false'. Refute it at one input. -/
def lawS0276BLastOfNameWrong : ChangeSpec := { name := "lawS0276BLastOfName", fn := fun _ => fun
  | [d1, d2] => { results := [.lit (.bool false)], args := [d1, d2] }
  | _ => none }
def LawS0276BLastOfNameWrongFalsely : Prop := lawS0276BLastOfNameRow.holds Yba.pinned (OpenSpec.ofChange lawS0276BLastOfNameWrong)

/-- 'flagholm.LawS0276BFreeNames': WHATEVER THE INPUT: true; the input reads as it did. -/
def lawS0276BFreeNamesSpec : ChangeSpec := { name := "lawS0276BFreeNames", fn := fun _ => fun
  | [d1, d2, d3] => { results := [.lit (.bool true)], args := [d1, d2, d3] }
  | _ => none }
def lawS0276BFreeNamesRow : OpenClaim := { program := "ybulkerq", sum := "f8d2af2e9bc2f6fb05ebe7019620c2f3e9ebbc5e2a4f4c4c18eb37758be0c1e7", func := "example.com/flagholm/flagholm.LawS0276BFreeNames", spec := "lawS0276BFreeNames", apart := false }
def LawS0276BFreeNamesSaid : Prop := lawS0276BFreeNamesRow.holds Yba.pinned (OpenSpec.ofChange lawS0276BFreeNamesSpec)

/-- ITS FALSE NEIGHBOUR: 'it returns false'. Refute it at one input. -/
def lawS0276BFreeNamesWrong : ChangeSpec := { name := "lawS0276BFreeNames", fn := fun _ => fun
  | [d1, d2, d3] => { results := [.lit (.bool false)], args := [d1, d2, d3] }
  | _ => none }
def LawS0276BFreeNamesWrongFalsely : Prop := lawS0276BFreeNamesRow.holds Yba.pinned (OpenSpec.ofChange lawS0276BFreeNamesWrong)

end Rows
end Go.Proofs.Ybulkerq
