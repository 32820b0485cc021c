/-
  No cell of these rows narrows 'for every input' (looked for: loops, veiled, ifaces, maps, wideKeys, modest, calm, conditions, laid).
  DERIVED. THE GIVEN ROWS OF THIS SEAT. 1 by the template 'for every input the law returns true; each argument reads behind the call as it read before'; 0 by the template 'total and deterministic' (their statements: YbulkeuwTotals.lean).
  GIVEN WITH THE SEED: the statements are not yours to turn. If you find one false, say at which input.
  Laid BY PROGRAM, IN A SANDBOX (cutbox-rows.mjs): the forced cells as the released guide's own fill.sh prints them over the translation 898c05f97fd1115c… (all of the seat's roots in one cut). By AI agents, Wed Nov 11 2026. No macro, syntax, notation, axiom, sorry.
-/
import Derived.Test.YbulkeuwChecked
import GoSem.Claim
import GoSem.ClaimJoined
import GoSem.ClaimMapViews
import Derived.JoinedTies
import Derived.KernelRfl
namespace Go.Proofs.Ybulkeuw
/- THE CELL 'sum', in the pinned program and in every row, IS THE sha256 OF THE DUMP (.gsa) THAT YbulkeuwProg.lean LOADS. Nothing in Lean hashes anything: it is a label: what it is worth is what the hold of that sum in a sandbox is worth. -/
noncomputable def Yba.pinned : Pinned := { name := "ybulkeuw", sum := "898c05f97fd1115c7d6531b4b383e7da2df7f24a12616ae65047c3c301d9b6b9", checked := Yba.checked }
namespace Rows
def none {H : Type} : Left H := { results := [], args := [] }

/-- 'humble-wiring.LawS0282ASettle': WHATEVER THE INPUT: true; the input reads as it did. -/
def lawS0282ASettleSpec : ChangeSpec := { name := "lawS0282ASettle", fn := fun _ => fun
  | [d1, d2, d3, d4, d5, d6, d7, d8] => { results := [.lit (.bool true)], args := [d1, d2, d3, d4, d5, d6, d7, d8] }
  | _ => none }
def lawS0282ASettleRow : OpenClaim := { program := "ybulkeuw", sum := "898c05f97fd1115c7d6531b4b383e7da2df7f24a12616ae65047c3c301d9b6b9", func := "example.com/humble-wiring/humble-wiring.LawS0282ASettle", spec := "lawS0282ASettle", apart := false }
def LawS0282ASettleSaid : Prop := lawS0282ASettleRow.holds Yba.pinned (OpenSpec.ofChange lawS0282ASettleSpec)

/-- ITS FALSE NEIGHBOUR: 'it returns false'. Refute it at one input. -/
def lawS0282ASettleWrong : ChangeSpec := { name := "lawS0282ASettle", fn := fun _ => fun
  | [d1, d2, d3, d4, d5, d6, d7, d8] => { results := [.lit (.bool false)], args := [d1, d2, d3, d4, d5, d6, d7, d8] }
  | _ => none }
def LawS0282ASettleWrongFalsely : Prop := lawS0282ASettleRow.holds Yba.pinned (OpenSpec.ofChange lawS0282ASettleWrong)

end Rows
end Go.Proofs.Ybulkeuw
