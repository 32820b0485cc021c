/-
  No cell of these rows narrows 'for every input' (looked for: loops, veiled, ifaces, maps, wideKeys, modest, calm, conditions, laid).
  DERIVED. THE GIVEN ROWS OF THIS SEAT. 1 by the template 'for every input the law returns true; each argument reads behind the call as it read before'; 0 by the template 'total and deterministic' (their statements: YbulkeuwFmtTotals.lean).
  GIVEN WITH THE SEED: the statements are not yours to turn. If you find one false, say at which input.
  Laid BY PROGRAM, IN A SANDBOX (cutbox-rows.mjs): the forced cells as the released guide's own fill.sh prints them over the translation 22019bbef3b8c3dd… (all of the seat's roots in one cut). By AI agents, Wed Nov 11 2026. No macro, syntax, notation, axiom, sorry.
-/
import Derived.Test.YbulkeuwFmtChecked
import GoSem.Claim
import GoSem.ClaimJoined
import GoSem.ClaimMapViews
import Derived.JoinedTies
import Derived.KernelRfl
namespace Go.Proofs.YbulkeuwFmt
/- THE CELL 'sum', in the pinned program and in every row, IS THE sha256 OF THE DUMP (.gsa) THAT YbulkeuwFmtProg.lean LOADS. Nothing in Lean hashes anything: it is a label: what it is worth is what the hold of that sum in a sandbox is worth. -/
noncomputable def Ybaf.pinned : Pinned := { name := "ybulkeuwfmt", sum := "22019bbef3b8c3dd3eb34a5e1ff27362bf8edc1f075a33c1780577f5915588c2", checked := Ybaf.checked }
namespace Rows
def none {H : Type} : Left H := { results := [], args := [] }

/-- 'humble-wiring.LawS0282BRecords': WHATEVER THE INPUT: true; the input reads as it did. -/
def lawS0282BRecordsSpec : ChangeSpec := { name := "lawS0282BRecords", fn := fun _ => fun
  | [d1, d2, d3] => { results := [.lit (.bool true)], args := [d1, d2, d3] }
  | _ => none }
def lawS0282BRecordsRow : OpenClaim := { program := "ybulkeuwfmt", sum := "22019bbef3b8c3dd3eb34a5e1ff27362bf8edc1f075a33c1780577f5915588c2", func := "example.com/humble-wiring/humble-wiring.LawS0282BRecords", spec := "lawS0282BRecords", stops := ["fmt.Sprintf"], inPlace := ["(*internal/sync.Mutex).Lock", "internal/race.Disable", "sync/atomic.CompareAndSwapInt32", "internal/race.Enable", "internal/race.Acquire", "(*internal/sync.Mutex).lockSlow", "internal/sync.runtime_canSpin", "internal/sync.runtime_doSpin", "internal/sync.throw", "internal/sync.runtime_nanotime", "internal/sync.runtime_SemacquireMutex", "sync/atomic.AddInt32", "(*internal/sync.Mutex).Unlock", "internal/race.ReleaseMerge", "(*internal/sync.Mutex).unlockSlow", "internal/sync.fatal", "internal/sync.runtime_Semrelease", "fmt.Sprintf"], unfollowed := true, recurses := true, apart := false }
/-- NO THEOREM (fmt's text is open here; it may be false): for the released tool's asking of the row's closed facts alone. THE STATEMENT IS 'LawS0282BRecordsToldSaid' (YbulkeuwFmtCards.lean). -/
def LawS0282BRecordsFormAsk : Prop := lawS0282BRecordsRow.holds Ybaf.pinned (OpenSpec.ofChange lawS0282BRecordsSpec)

/-- ITS FALSE NEIGHBOUR: 'it returns false'. Refute it at one input. -/
def lawS0282BRecordsWrong : ChangeSpec := { name := "lawS0282BRecords", fn := fun _ => fun
  | [d1, d2, d3] => { results := [.lit (.bool false)], args := [d1, d2, d3] }
  | _ => none }
def LawS0282BRecordsWrongFormAsk : Prop := lawS0282BRecordsRow.holds Ybaf.pinned (OpenSpec.ofChange lawS0282BRecordsWrong)

end Rows
end Go.Proofs.YbulkeuwFmt
