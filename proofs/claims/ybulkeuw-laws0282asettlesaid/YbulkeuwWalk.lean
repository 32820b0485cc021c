/-
  errors.New, wait and settle, walked.
-/
import Derived.Test.YbulkeuwNorm
import Derived.WalkLawsBesides
import Derived.WalkSpells
import Derived.RegionTactic
import Derived.LaidEqlPtr
namespace Go.Proofs.Ybulkeuw
open Go.RowKit Go.Conc

theorem new_any (s : ByteArray) (w : World) : Calls Yba.prog 4 #[.string s] w fun e w' => e = .returned (.iface 70 (.pointer (some ⟨w.heap.size, 0, none⟩))) ∧ w' = w.alloc (.cells #[.string s] 72 (0, 0)) := by
  go_enter Yba.func4, Yba.ntmps4
  go_wp2
  go_ret
  exact ⟨rfl, rfl⟩

theorem assert_some (a : Addr) (w : World) : (Instr.typeAssert (.iface 55 (.pointer (some a))) 20 55 true).run Yba.prog w = .ok (.tuple #[.pointer (some a), .bool true]) w := by kernel_rfl
theorem assert_comp (a : Addr) (w : World) : (Instr.typeAssert (.iface 45 (.pointer (some a))) 20 55 true).run Yba.prog w = .ok (.tuple #[.pointer none, .bool false]) w := by kernel_rfl
theorem assert_nil (w : World) : (Instr.typeAssert .nilIface 20 55 true).run Yba.prog w = .ok (.tuple #[.pointer none, .bool false]) w := by kernel_rfl
theorem assert_be (a : Addr) (w : World) : (Instr.typeAssert (.iface 64 (.pointer (some a))) 20 64 true).run Yba.prog w = .ok (.tuple #[.pointer (some a), .bool true]) w := by kernel_rfl
theorem assert_int (n : Int) (w : World) : (Instr.typeAssert (.iface 3 (.int .i64 n)) 20 3 true).run Yba.prog w = .ok (.tuple #[.int .i64 n, .bool true]) w := by kernel_rfl

/-- wait: what lies in the component's value, and what comes of it. -/
inductive Waits : Value → Option Nat → Prop
  | some (W : Nat) : Waits (.iface 55 (.pointer (.some ⟨W, 0, none⟩))) (.some W)
  | comp (W : Nat) : Waits (.iface 45 (.pointer (.some ⟨W, 0, none⟩))) none
  | nil : Waits .nilIface none

def ptrOf (o : Option Nat) : Value := .pointer (o.map fun b => ⟨b, 0, none⟩)

theorem wait_any (w : World) (B : Nat) (x : Value) (o : Option Nat) (h : w.cell? ⟨B, 5, none⟩ = some x) (hx : Waits x o) : Calls Yba.prog 6 #[.pointer (some ⟨B, 0, none⟩)] w fun e w' => e = .returned (ptrOf o) ∧ w' = w := by
  have h1 := assert_some
  have h2 := assert_comp
  have h3 := assert_nil
  cases hx
  all_goals
    go_enter Yba.func6, Yba.ntmps6
    go_wp2
    go_ret
    exact ⟨rfl, rfl⟩

theorem neq_err (a : Addr) (w : World) : (binOp .neq 61 (.iface 70 (.pointer (some a))) .nilIface).run Yba.prog w = .ok (.bool true) w := by kernel_rfl
theorem neq_nil (w : World) : (binOp .neq 61 .nilIface .nilIface).run Yba.prog w = .ok (.bool false) w := by kernel_rfl

/-- The world behind settle with an error. -/
def errW (w : World) (B : Nat) (nm : ByteArray) (E : Addr) : World := ((w.setCell ⟨B, 4, none⟩ (.int .i32 (-2))).setCell ⟨B, 5, none⟩ (.iface 64 (.pointer (some ⟨w.heap.size, 0, none⟩)))).alloc (.cells #[.string nm, .iface 70 (.pointer (some E))] 67 (0, 0))

set_option maxRecDepth 100000 in
/-- settle, with an error, nobody waiting. -/
theorem settle_err (w : World) (C B Pb : Nat) (E : Addr) (x v m4 : Value) (nm : ByteArray) (hx : Waits x none) (hv : w.cell? ⟨B, 5, none⟩ = some x) (h4 : w.cell? ⟨B, 4, none⟩ = some m4) (hf : ∀ k, w.frozen? ⟨B, k, none⟩ = false) (hp : w.cell? ⟨B, 0, none⟩ = some (.pointer (some ⟨Pb, 0, none⟩))) (hn : w.cell? ⟨Pb, 0, none⟩ = some (.string nm)) :
    Calls Yba.prog 5 #[.pointer (some ⟨C, 0, none⟩), .pointer (some ⟨B, 0, none⟩), v, .iface 70 (.pointer (some E))] w fun e w' => e = .returned (.tuple #[]) ∧ w' = errW w B nm E := by
  have hne := neq_err
  have hb : B < w.heap.size := World.block_lt_of_cell? _ _ hv
  go_enter Yba.func5, Yba.ntmps5
  go_wp2_with fail
  refine (wait_any w B x none hv hx).mono ?_
  rintro e w' ⟨rfl, rfl⟩
  simp only [ptrOf, Option.map_none]
  go_wp2
  go_end0
  exact ⟨rfl, rfl⟩

theorem set_heap_other (w : World) (p : Addr) (v : Value) (c : Nat) (h : p.block ≠ c) : (w.setCell p v).heap[c]? = w.heap[c]? := Below.heap_setCell _ _ _ _ (fun e => h e.symm)

set_option maxRecDepth 100000 in
/-- .. somebody waiting. -/
theorem settle_err_wait (w : World) (C B Pb W c : Nat) (E : Addr) (v m4 : Value) (nm : ByteArray) (hv : w.cell? ⟨B, 5, none⟩ = some (.iface 55 (.pointer (some ⟨W, 0, none⟩)))) (h4 : w.cell? ⟨B, 4, none⟩ = some m4) (hf : ∀ k, w.frozen? ⟨B, k, none⟩ = false) (hp : w.cell? ⟨B, 0, none⟩ = some (.pointer (some ⟨Pb, 0, none⟩))) (hn : w.cell? ⟨Pb, 0, none⟩ = some (.string nm))
    (hW : w.cell? ⟨W, 2, none⟩ = some (.chan (some c))) (hBW : B ≠ W) (hBc : B ≠ c) (hc : w.heap[c]? = some (.chan 0 #[] false 0 0 false)) :
    Calls Yba.prog 5 #[.pointer (some ⟨C, 0, none⟩), .pointer (some ⟨B, 0, none⟩), v, .iface 70 (.pointer (some E))] w fun e w' => e = .returned (.tuple #[]) ∧ w' = (errW w B nm E).setChan c 0 #[] true 0 0 false := by
  have hne := neq_err
  have hb : B < w.heap.size := World.block_lt_of_cell? _ _ hv
  have hb2 : W < w.heap.size := World.block_lt_of_cell? _ _ hW
  have hcl : c < w.heap.size := (Array.getElem?_eq_some_iff.1 hc).1
  have hc' : (errW w B nm E).heap[c]? = some (.chan 0 #[] false 0 0 false) := by
    rw [errW, Below.heap_alloc _ _ _ (by simpa [World.setCell] using hcl), set_heap_other _ _ _ _ hBc, set_heap_other _ _ _ _ hBc]
    exact hc
  have hcls := fun ats ty => run_close_open (P := Yba.prog) ats ty hc'
  simp only [errW] at hcls
  have hBW' : ¬ B = W := hBW
  have hBW2 : ¬ W = B := fun e => hBW e.symm
  clear hc hc'
  go_enter Yba.func5, Yba.ntmps5
  go_wp2_with fail
  refine (wait_any w B _ _ hv (.some W)).mono ?_
  rintro e w' ⟨rfl, rfl⟩
  simp only [ptrOf, Option.map_some]
  go_wp2
  go_end0
  exact ⟨rfl, rfl⟩
/-- The world behind settle without one. -/
def okW (w : World) (C B : Nat) (en vn : Int) : World := ((w.setCell ⟨B, 4, none⟩ (.int .i32 en)).setCell ⟨C, 6, none⟩ (.int .i32 (wrap32 (en + 1)))).setCell ⟨B, 5, none⟩ (.iface 3 (.int .i64 vn))

set_option maxRecDepth 100000 in
theorem settle_ok (w : World) (C B : Nat) (x m4 : Value) (vn en : Int) (hx : Waits x none) (hv : w.cell? ⟨B, 5, none⟩ = some x) (h4 : w.cell? ⟨B, 4, none⟩ = some m4) (hf : ∀ k, w.frozen? ⟨B, k, none⟩ = false) (hfc : ∀ k, w.frozen? ⟨C, k, none⟩ = false) (he : w.cell? ⟨C, 6, none⟩ = some (.int .i32 en)) (hBC : B ≠ C) :
    Calls Yba.prog 5 #[.pointer (some ⟨C, 0, none⟩), .pointer (some ⟨B, 0, none⟩), .iface 3 (.int .i64 vn), .nilIface] w fun e w' => e = .returned (.tuple #[]) ∧ w' = okW w C B en vn := by
  have hne := neq_nil
  have hb : B < w.heap.size := World.block_lt_of_cell? _ _ hv
  have hb1 : ¬ B = C := hBC
  have hb2 : ¬ C = B := fun e => hBC e.symm
  go_enter Yba.func5, Yba.ntmps5
  go_wp2_with fail
  refine (wait_any w B x none hv hx).mono ?_
  rintro e w' ⟨rfl, rfl⟩
  simp only [ptrOf, Option.map_none]
  go_wp2
  go_end0
  exact ⟨rfl, rfl⟩

set_option maxRecDepth 100000 in
theorem settle_ok_wait (w : World) (C B W c : Nat) (m4 : Value) (vn en : Int) (hv : w.cell? ⟨B, 5, none⟩ = some (.iface 55 (.pointer (some ⟨W, 0, none⟩)))) (h4 : w.cell? ⟨B, 4, none⟩ = some m4) (hf : ∀ k, w.frozen? ⟨B, k, none⟩ = false) (hfc : ∀ k, w.frozen? ⟨C, k, none⟩ = false) (he : w.cell? ⟨C, 6, none⟩ = some (.int .i32 en)) (hBC : B ≠ C)
    (hW : w.cell? ⟨W, 2, none⟩ = some (.chan (some c))) (hBW : B ≠ W) (hCW : C ≠ W) (hBc : B ≠ c) (hCc : C ≠ c) (hc : w.heap[c]? = some (.chan 0 #[] false 0 0 false)) :
    Calls Yba.prog 5 #[.pointer (some ⟨C, 0, none⟩), .pointer (some ⟨B, 0, none⟩), .iface 3 (.int .i64 vn), .nilIface] w fun e w' => e = .returned (.tuple #[]) ∧ w' = (okW w C B en vn).setChan c 0 #[] true 0 0 false := by
  have hne := neq_nil
  have hb : B < w.heap.size := World.block_lt_of_cell? _ _ hv
  have hc' : (okW w C B en vn).heap[c]? = some (.chan 0 #[] false 0 0 false) := by
    rw [okW, set_heap_other _ _ _ _ hBc, set_heap_other _ _ _ _ hCc, set_heap_other _ _ _ _ hBc]
    exact hc
  have hcls := fun ats ty => run_close_open (P := Yba.prog) ats ty hc'
  simp only [okW] at hcls
  have hb1 : ¬ B = C := hBC
  have hb2 : ¬ C = B := fun e => hBC e.symm
  have hBW' : ¬ B = W := hBW
  have hBW2 : ¬ W = B := fun e => hBW e.symm
  have hCW' : ¬ C = W := hCW
  have hCW2 : ¬ W = C := fun e => hCW e.symm
  clear hc hc'
  go_enter Yba.func5, Yba.ntmps5
  go_wp2_with fail
  refine (wait_any w B _ _ hv (.some W)).mono ?_
  rintro e w' ⟨rfl, rfl⟩
  simp only [ptrOf, Option.map_some]
  go_wp2
  go_end0
  exact ⟨rfl, rfl⟩
end Go.Proofs.Ybulkeuw
