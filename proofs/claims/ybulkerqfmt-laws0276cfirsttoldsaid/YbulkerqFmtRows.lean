/-
  No cell of these rows narrows 'for every input' (looked for: loops, veiled, ifaces, maps, wideKeys, modest, calm, conditions, laid).
  DERIVED. THE GIVEN ROWS OF THIS SEAT. 1 by the template 'for every input the law returns true; each argument reads behind the call as it read before'; 0 by the template 'total and deterministic' (their statements: YbulkerqFmtTotals.lean).
  GIVEN WITH THE SEED: the statements are not yours to turn. If you find one false, say at which input.
  Laid BY PROGRAM, IN A SANDBOX (cutbox-rows.mjs): the forced cells as the released guide's own fill.sh prints them over the translation 94951eb69b133d96… (all of the seat's roots in one cut). By AI agents, Wed Nov 11 2026. No macro, syntax, notation, axiom, sorry.
-/
import Derived.Test.YbulkerqFmtChecked
import GoSem.Claim
import GoSem.ClaimJoined
import GoSem.ClaimMapViews
import Derived.JoinedTies
import Derived.KernelRfl
namespace Go.Proofs.YbulkerqFmt
/- THE CELL 'sum', in the pinned program and in every row, IS THE sha256 OF THE DUMP (.gsa) THAT YbulkerqFmtProg.lean LOADS. Nothing in Lean hashes anything: it is a label: what it is worth is what the hold of that sum in a sandbox is worth. -/
noncomputable def Ybaf.pinned : Pinned := { name := "ybulkerqfmt", sum := "94951eb69b133d96a881c3652dc96bf52e58a74b159a555c447247970a7f5b6f", checked := Ybaf.checked }
namespace Rows
def none {H : Type} : Left H := { results := [], args := [] }

/-- 'flagholm.LawS0276CFirst': WHATEVER THE INPUT: true; the input reads as it did. -/
def lawS0276CFirstSpec : ChangeSpec := { name := "lawS0276CFirst", fn := fun _ => fun
  | [d1, d2, d3] => { results := [.lit (.bool true)], args := [d1, d2, d3] }
  | _ => none }
def lawS0276CFirstRow : OpenClaim := { program := "ybulkerqfmt", sum := "94951eb69b133d96a881c3652dc96bf52e58a74b159a555c447247970a7f5b6f", func := "example.com/flagholm/flagholm.LawS0276CFirst", spec := "lawS0276CFirst", stops := ["fmt.errorf"], inPlace := ["internal/reflectlite.ValueOf", "internal/reflectlite.Swapper", "(internal/reflectlite.Value).Len", "internal/bytealg.abigen_runtime_cmpstring", "fmt.errorf", "internal/reflectlite.TypeOf"], unfollowed := true, recurses := true, apart := false }
/-- NO THEOREM (fmt's text is open here; it may be false): for the released tool's asking of the row's closed facts alone. THE STATEMENT IS 'LawS0276CFirstToldSaid' (YbulkerqFmtCards.lean). -/
def LawS0276CFirstFormAsk : Prop := lawS0276CFirstRow.holds Ybaf.pinned (OpenSpec.ofChange lawS0276CFirstSpec)

/-- ITS FALSE NEIGHBOUR: 'it returns false'. Refute it at one input. -/
def lawS0276CFirstWrong : ChangeSpec := { name := "lawS0276CFirst", fn := fun _ => fun
  | [d1, d2, d3] => { results := [.lit (.bool false)], args := [d1, d2, d3] }
  | _ => none }
def LawS0276CFirstWrongFormAsk : Prop := lawS0276CFirstRow.holds Ybaf.pinned (OpenSpec.ofChange lawS0276CFirstWrong)

end Rows
end Go.Proofs.YbulkerqFmt
