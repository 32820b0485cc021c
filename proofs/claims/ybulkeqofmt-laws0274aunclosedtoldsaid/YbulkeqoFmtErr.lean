/-
  The error's way: errorf over fmt's stop, describe, expected, expect at the end.
-/
import Derived.Test.YbulkeqoFmtParse
import Derived.Stop.CallBack
import Derived.Stop.IfaceNil
import Derived.WalkSpells
import Derived.Deep.RegionWith
import Derived.Deep.RegionHeld3
import GoSem.ClaimData
namespace Go.Proofs.YbulkeqoFmt
open Go.RowKit Go.Extern.Stop Go.Stop Go.Extern

theorem call26 (args : Array Value) (w : World) : (callFunc 26 args).run Ybaf.prog w = (FmtCalls.sprintf #[9, 81] #[9] args).run Ybaf.prog w :=
  run_callFunc_next Ybaf.func26 (by kernel_rfl) (by kernel_rfl) (by kernel_rfl) args w
theorem guard_ok (name : String) (w : World) : (FmtStop.guard name).run Ybaf.prog w = .ok () w := by kernel_rfl
theorem nextTurns : Extern.next FmtCalls.turnsRow = some (FmtCalls.begun #[] #[]) := by kernel_rfl
abbrev expFmt : ByteArray := ⟨#[101, 120, 112, 101, 99, 116, 101, 100, 32, 37, 115, 44, 32, 102, 111, 117, 110, 100, 32, 37, 115]⟩
theorem fmt_exp : FmtStop.printed? expFmt 2 = some [(0, 115, false), (1, 115, false)] := by kernel_rfl
theorem fmt_expr (w : World) : (FmtDoors.printed expFmt 2).run Ybaf.prog w = .ok [(0, 115, false), (1, 115, false)] w := by kernel_rfl
def shape9 : List UInt8 := [12, 6, 0, 0, 0, 0, 0, 0, 0, 115, 116, 114, 105, 110, 103]
theorem act9_115 (name : String) (x : Value) (w : World) : (FmtCalls.act name false 115 false (.iface 9 x)).run Ybaf.prog w = .ok (.closed false) w := by kernel_rfl
theorem op9_115 (name : String) (x : ByteArray) (w : World) : (FmtStop.operand name false 115 false (.iface 9 (.string x))).run Ybaf.prog w = .ok (shape9, FmtStop.pack x.data.toList) w := by kernel_rfl

set_option maxHeartbeats 400000 in
theorem errorf_any (F : Stop.Interp) (p : Int) (blk : Nat) (a b : ByteArray) (w : World) (hF : F.answers w.tape) (h0 : w.cell? ⟨blk, 0, none⟩ = some (.iface 9 (.string a))) (h1 : w.cell? ⟨blk, 1, none⟩ = some (.iface 9 (.string b))) :
    Calls Ybaf.prog 18 #[.int .i64 p, .string expFmt, .slice (some ⟨blk, 0, none⟩) 2 2] w fun e w' => ∃ eb msg, e = .returned (.pointer (some ⟨eb, 0, none⟩)) ∧ w'.heap[eb]? = some (.cells #[.int .i64 p, .string msg] 55 (0, 0)) ∧ w.heap.size ≤ eb ∧ But [] w w' := by
  have hF' := answers_open hF
  have k1 := call26
  have k2 := guard_ok
  have k3 := fmt_exp
  have k4 := fmt_expr
  have k5 := act9_115
  have k6 := op9_115
  go_enter Ybaf.func18, Ybaf.ntmps18
  go_wp2
  apply rows_value nextTurns
  case hr => go_simp; exact ⟨rfl, rfl⟩
  case h =>
    go_wp2
    go_ret
    exact ⟨w.heap.size, _, rfl, blk_drew (blk_new _ _), Nat.le_refl _, ((But.refl [] w).alloc _).drew⟩
abbrev endText : ByteArray := ⟨#[101, 110, 100, 32, 111, 102, 32, 101, 120, 112, 114, 101, 115, 115, 105, 111, 110]⟩

/-- describe at the end. -/
theorem describe_end (a : Addr) (s : ByteArray) (p q : Int) (w : World) :
    Calls Ybaf.prog 19 #[.pointer (some a), .agg #[.int .u8 0, .string s, .int .i64 p, .int .i64 q]] w fun e w' => e = .returned (.string endText) ∧ w' = w.alloc (.cells #[.int .u8 0, .string s, .int .i64 p, .int .i64 q] 38) := by
  go_enter Ybaf.func19, Ybaf.ntmps19
  go_wp2
  go_ret
  exact ⟨rfl, rfl⟩

theorem third_cell (w : World) (o1 o2 : Obj) (c : Array Value) (t : TypeId) (k : Nat) : (((w.alloc o1).alloc o2).alloc (.cells c t)).drew.cell? ⟨w.heap.size + 1 + 1, k, none⟩ = c[k]? := by
  have h := blk_new ((w.alloc o1).alloc o2) (.cells c t)
  have h2 : ((w.alloc o1).alloc o2).heap.size = w.heap.size + 1 + 1 := by simp
  rw [h2] at h
  exact blk_cell (blk_drew h)

set_option maxHeartbeats 800000 in
/-- expected at the end. -/
theorem expected_end (F : Stop.Interp) (a : Addr) (what s : ByteArray) (p q : Int) (w : World) (hF : F.answers w.tape) :
    Calls Ybaf.prog 14 #[.pointer (some a), .string what, .agg #[.int .u8 0, .string s, .int .i64 p, .int .i64 q]] w fun e w' => ∃ eb msg, e = .returned (.iface 52 (.pointer (some ⟨eb, 0, none⟩))) ∧ w'.heap[eb]? = some (.cells #[.int .i64 p, .string msg] 55 (0, 0)) ∧ w.heap.size ≤ eb ∧ But [] w w' := by
  go_enter Ybaf.func14, Ybaf.ntmps14
  go_wp2_with fail
  go_region_held3 (fun w' => w'.cell? ⟨w.heap.size, 0, none⟩ = some (.int .u8 0) ∧ w'.cell? ⟨w.heap.size, 1, none⟩ = some (.string s) ∧ w'.cell? ⟨w.heap.size, 2, none⟩ = some (.int .i64 p) ∧ w'.cell? ⟨w.heap.size, 3, none⟩ = some (.int .i64 q)) (simp [go_sem, World.cell?_alloc_past, *]) (first
    | (go_at_call 19; refine (describe_end _ _ _ _ _).mono ?_; rintro e w' ⟨rfl, rfl⟩)
    | (go_at_call 18; refine (errorf_any F p (w.heap.size + 1 + 1) what endText _ (by exact hF) (by exact third_cell _ _ _ _ _ 0) (by exact third_cell _ _ _ _ _ 1)).mono ?_; rintro e w5 ⟨eb, msg, rfl, hE, hle, hb5⟩; have q0 : ∀ k, w5.cell? ⟨w.heap.size, k, none⟩ = (#[Value.int .u8 0, .string s, .int .i64 p, .int .i64 q] : Array Value)[k]? := (fun k => (hb5.cell (p := ⟨w.heap.size, k, none⟩) (by simp; omega) (by simp)).trans (blk_cell (blk_drew (blk_alloc (blk_alloc (blk_new w _) _) _))))))
  all_goals go_wp2
  all_goals go_ret
  all_goals
    refine ⟨eb, msg, rfl, hE, by simp at hle; omega, ?_⟩
    exact ((((But.refl [] w).alloc _).alloc _).alloc _).drew.trans hb5

set_option maxHeartbeats 400000 in
/-- expect at the end: an error, placed there. -/
theorem expect_end (F : Stop.Interp) (z : Pz) (w : World) (i : Nat) (d : Int) (h : St z w i d) (hF : F.answers w.tape) (ht : z.ts[i]? = some (0, ⟨#[]⟩)) :
    Calls Ybaf.prog 12 #[.pointer (some ⟨z.P, 0, none⟩), .string ⟨#[125]⟩] w fun e w' => ∃ eb msg, e = .returned (.iface 52 (.pointer (some ⟨eb, 0, none⟩))) ∧ w'.heap[eb]? = some (.cells #[.int .i64 i, .string msg] 55 (0, 0)) ∧ w.heap.size ≤ eb ∧ But [] w w' := by
  go_enter Ybaf.func12, Ybaf.ntmps12
  go_wp2_with fail
  refine (accept_kind z w i d h _ _ ht rfl).mono ?_
  rintro e w1 ⟨rfl, rfl⟩
  go_wp2_with fail
  refine (peek_any z w1 i d h _ ht).mono ?_
  rintro e w2 ⟨rfl, hs2, hb2⟩
  dsimp only [TV]
  go_wp2_with fail
  refine (expected_end F _ _ _ _ _ w2 (by rw [hb2.tape]; exact hF)).mono ?_
  rintro e w3 ⟨eb, msg, rfl, hE, hle, hb3⟩
  go_wp2
  go_ret
  exact ⟨eb, msg, rfl, hE, by have := hb2.size; omega, hb2.trans hb3⟩
end Go.Proofs.YbulkeqoFmt
