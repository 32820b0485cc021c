/-
  fmt.Errorf("flag %q: %w", key, fault) over fmt's stop.
-/
import Derived.Test.YbulkerqFmtRow
import Derived.Stop.CallBack
import Derived.Stop.IfaceNil
import Derived.WalkSpells
import GoSem.ClaimData
namespace Go.Proofs.YbulkerqFmt
open Go.RowKit Go.Extern.Stop Go.Stop Go.Extern

theorem call17 (args : Array Value) (w : World) : (callFunc 17 args).run Ybaf.prog w = ((FmtStop.errorf #[9, 61] #[35] args).run Ybaf.prog w).andThen fun v w' => .ok (.value v) w' :=
  run_callFunc_extern Ybaf.func17 (by kernel_rfl) (by kernel_rfl) (by kernel_rfl) (by kernel_rfl) args w
theorem guard_ok (name : String) (w : World) : (FmtStop.guard name).run Ybaf.prog w = .ok () w := by kernel_rfl
abbrev flagFmt : ByteArray := ⟨#[102, 108, 97, 103, 32, 37, 113, 58, 32, 37, 119]⟩
theorem fmt_flag : FmtStop.printed? flagFmt 2 = some [(0, 113, false), (1, 119, false)] := by kernel_rfl
theorem fmt_flagr (w : World) : (FmtDoors.printed flagFmt 2).run Ybaf.prog w = .ok [(0, 113, false), (1, 119, false)] w := by kernel_rfl
def shape9 : List UInt8 := [12, 6, 0, 0, 0, 0, 0, 0, 0, 115, 116, 114, 105, 110, 103]
theorem op9_113w (name : String) (x : ByteArray) (w : World) : (FmtStop.operand name true 113 false (.iface 9 (.string x))).run Ybaf.prog w = .ok (shape9, FmtStop.pack x.data.toList) w := by kernel_rfl
def plain41 : List UInt8 := 14 :: FmtStop.pack "*errors.errorString".toUTF8.data.toList
theorem opPlain41_119w (name : String) (a : Addr) (s : ByteArray) (w : World) (hc : w.cell? a = some (.string s)) :
    (FmtStop.operand name true 119 false (.iface 41 (.pointer (some a)))).run Ybaf.prog w = .ok (plain41, s.data.toList) w := by
  have h1 : (typeStr 41).run Ybaf.prog w = .ok "*errors.errorString" w := by kernel_rfl
  have d2 : Ybaf.t41.desc = .pointer 43 := rfl
  have d3 : Ybaf.t43.desc = .named "errors.errorString" 42 := rfl
  simp [FmtStop.operand, h1, d2, d3, run_load, hc, plain41]
theorem ptr62 (w : World) : (FmtStop.ptrTo "fmt.wrapError").run Ybaf.prog w = .ok 62 w := by kernel_rfl
theorem elem62 (w : World) : (elemOf 62).run Ybaf.prog w = .ok 109 w := by kernel_rfl
theorem isError41 (w : World) : (FmtDoors.textMethod 41 "Error").run Ybaf.prog w = .ok true w := by kernel_rfl

set_option maxHeartbeats 400000 in
theorem errorf_wrap (F : Stop.Interp) (blk : Nat) (key s : ByteArray) (a : Addr) (w : World) (hF : F.answers w.tape) (h0 : w.cell? ⟨blk, 0, none⟩ = some (.iface 9 (.string key))) (h1 : w.cell? ⟨blk, 1, none⟩ = some (.iface 41 (.pointer (some a)))) (hs : w.cell? a = some (.string s)) :
    Calls Ybaf.prog 11 #[.string flagFmt, .slice (some ⟨blk, 0, none⟩) 2 2] w fun e w' => ∃ eb msg, e = .returned (.iface 62 (.pointer (some ⟨eb, 0, none⟩))) ∧ w'.heap[eb]? = some (.cells #[.string msg, .iface 41 (.pointer (some a))] 109 (0, 0)) ∧ w.heap.size ≤ eb ∧ But [] w w' := by
  have hF' := answers_open hF
  have k1 := call17
  have k2 := guard_ok
  have k3 := fmt_flag
  have k4 := fmt_flagr
  have k5 := opPlain41_119w "fmt.errorf" a s w hs
  have k6 := op9_113w
  have k7 := ptr62
  have k8 := elem62
  have k9 := isError41
  go_enter Ybaf.func11, Ybaf.ntmps11
  go_wp2
  go_ret
  exact ⟨w.heap.size, _, rfl, blk_new _ _, Nat.le_refl _, ((But.refl [] w).alloc _).drew⟩
end Go.Proofs.YbulkerqFmt
