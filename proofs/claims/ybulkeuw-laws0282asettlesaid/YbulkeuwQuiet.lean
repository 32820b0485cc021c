/-
  LawS0282ASettle, walked: nobody waits.
-/
import Derived.Test.YbulkeuwLaw2
namespace Go.Proofs.Ybulkeuw
open Go.RowKit Go.Conc

set_option maxRecDepth 100000 in
theorem quiet_ok (a0 : Int) (a1 : ByteArray) (a2 : Int) (a4 : ByteArray) (a5 : Int) (w : World) :
    Calls Yba.prog 3 #[.int .i32 a0, .string a1, .int .i64 a2, .bool false, .string a4, .int .i64 a5, .bool false, .bool false] w fun e w' => e = .returned (.bool true) ∧ Below w.heap.size w w' := by
  have hpn := ptr_neq
  have hai := assert_int
  go_enter Yba.func3, Yba.ntmps3
  go_wp2_with fail
  refine (settled_ok (Pb := w.heap.size + 1) (x := .nilIface) (a0 := a0) (a1 := a1) ⟨by simp [go_sem], by simp [go_sem], by simp [go_sem], by simp [go_sem], ⟨_, by simp [go_sem]; rfl⟩, by simp [go_sem], by simp [go_sem], fun k => by simp [go_sem], fun k => by simp [go_sem], by omega, by omega, by omega⟩ a5 .nil).mono ?_
  rintro e w1 ⟨rfl, ⟨f1, f2, f3, f4, f5, f6⟩, hbel⟩
  have HB : Hid (Below w.heap.size w w1) := by
      refine Below.trans ?_ (hbel w.heap.size (by omega) (by simp <;> omega))
      repeat (first | exact Below.refl _ _ | refine Below.alloc ?_ (by simp <;> omega) _ | refine Below.setCell ?_ (by simp <;> omega) _)
  clear hbel
  go_wp2
  go_ret
  exact ⟨rfl, HB.out⟩

set_option maxRecDepth 100000 in
theorem quiet_ok_caller (a0 : Int) (a1 : ByteArray) (a2 : Int) (a4 : ByteArray) (a5 : Int) (w : World) :
    Calls Yba.prog 3 #[.int .i32 a0, .string a1, .int .i64 a2, .bool false, .string a4, .int .i64 a5, .bool false, .bool true] w fun e w' => e = .returned (.bool true) ∧ Below w.heap.size w w' := by
  have hpn := ptr_neq
  have hai := assert_int
  go_enter Yba.func3, Yba.ntmps3
  go_wp2_with fail
  refine (settled_ok (Pb := w.heap.size + 1) (x := (.iface 45 (.pointer (some ⟨w.heap.size + 1 + 1 + 1, 0, none⟩)))) (a0 := a0) (a1 := a1) ⟨by simp [go_sem], by simp [go_sem], by simp [go_sem], by simp [go_sem], ⟨_, by simp [go_sem]; rfl⟩, by simp [go_sem], by simp [go_sem], fun k => by simp [go_sem], fun k => by simp [go_sem], by omega, by omega, by omega⟩ a5 (.comp _)).mono ?_
  rintro e w1 ⟨rfl, ⟨f1, f2, f3, f4, f5, f6⟩, hbel⟩
  have HB : Hid (Below w.heap.size w w1) := by
      refine Below.trans ?_ (hbel w.heap.size (by omega) (by simp <;> omega))
      repeat (first | exact Below.refl _ _ | refine Below.alloc ?_ (by simp <;> omega) _ | refine Below.setCell ?_ (by simp <;> omega) _)
  clear hbel
  go_wp2
  go_ret
  exact ⟨rfl, HB.out⟩

set_option maxRecDepth 100000 in
theorem quiet_err (a0 : Int) (a1 : ByteArray) (a2 : Int) (a4 : ByteArray) (a5 : Int) (w : World) :
    Calls Yba.prog 3 #[.int .i32 a0, .string a1, .int .i64 a2, .bool true, .string a4, .int .i64 a5, .bool false, .bool false] w fun e w' => e = .returned (.bool true) ∧ Below w.heap.size w w' := by
  have hpn := ptr_neq
  have hai := assert_be
  have hen := err_neq
  go_enter Yba.func3, Yba.ntmps3
  go_wp2_with fail
  refine (new_any _ _).mono ?_
  rintro e w1 ⟨rfl, rfl⟩
  go_wp2_with fail
  refine (settled_err (Pb := w.heap.size + 1) (x := .nilIface) (a0 := a0) (a1 := a1) ⟨by simp [go_sem], by simp [go_sem], by simp [go_sem], by simp [go_sem], ⟨_, by simp [go_sem]; rfl⟩, by simp [go_sem], by simp [go_sem], fun k => by simp [go_sem], fun k => by simp [go_sem], by omega, by omega, by omega⟩ .nil).mono ?_
  rintro e w1 ⟨rfl, ⟨f1, f2, f3, f4, f5, f6, f7, f8⟩, hbel⟩
  simp only [World.size_alloc] at f6 f7 f8
  have HB : Hid (Below w.heap.size w w1) := by
      refine Below.trans ?_ (hbel w.heap.size (by omega) (by simp <;> omega))
      repeat (first | exact Below.refl _ _ | refine Below.alloc ?_ (by simp <;> omega) _ | refine Below.setCell ?_ (by simp <;> omega) _)
  clear hbel
  go_wp2
  go_ret
  exact ⟨rfl, HB.out⟩

set_option maxRecDepth 100000 in
theorem quiet_err_caller (a0 : Int) (a1 : ByteArray) (a2 : Int) (a4 : ByteArray) (a5 : Int) (w : World) :
    Calls Yba.prog 3 #[.int .i32 a0, .string a1, .int .i64 a2, .bool true, .string a4, .int .i64 a5, .bool false, .bool true] w fun e w' => e = .returned (.bool true) ∧ Below w.heap.size w w' := by
  have hpn := ptr_neq
  have hai := assert_be
  have hen := err_neq
  go_enter Yba.func3, Yba.ntmps3
  go_wp2_with fail
  refine (new_any _ _).mono ?_
  rintro e w1 ⟨rfl, rfl⟩
  go_wp2_with fail
  refine (settled_err (Pb := w.heap.size + 1) (x := (.iface 45 (.pointer (some ⟨w.heap.size + 1 + 1 + 1, 0, none⟩)))) (a0 := a0) (a1 := a1) ⟨by simp [go_sem], by simp [go_sem], by simp [go_sem], by simp [go_sem], ⟨_, by simp [go_sem]; rfl⟩, by simp [go_sem], by simp [go_sem], fun k => by simp [go_sem], fun k => by simp [go_sem], by omega, by omega, by omega⟩ (.comp _)).mono ?_
  rintro e w1 ⟨rfl, ⟨f1, f2, f3, f4, f5, f6, f7, f8⟩, hbel⟩
  simp only [World.size_alloc] at f6 f7 f8
  have HB : Hid (Below w.heap.size w w1) := by
      refine Below.trans ?_ (hbel w.heap.size (by omega) (by simp <;> omega))
      repeat (first | exact Below.refl _ _ | refine Below.alloc ?_ (by simp <;> omega) _ | refine Below.setCell ?_ (by simp <;> omega) _)
  clear hbel
  go_wp2
  go_ret
  exact ⟨rfl, HB.out⟩

end Go.Proofs.Ybulkeuw
