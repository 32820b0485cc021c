/-
  LawS0282ASettle, walked: somebody waits.
-/
import Derived.Test.YbulkeuwLaw2
namespace Go.Proofs.Ybulkeuw
open Go.RowKit Go.Conc

theorem info24 : (Yba.prog.info? 24).map (fun i => i.bytes) = some 0 := by kernel_rfl
theorem mk0 (w : World) : (Instr.makeChan 56 (.int .i64 0)).run Yba.prog w = .ok (.chan (some w.heap.size)) (w.alloc (.chan 0 #[] false 0 0 false)) := by
  obtain ⟨i, hi, hb⟩ := Option.map_eq_some_iff.1 info24
  simpa using run_makeChan (P := Yba.prog) (w := w) Yba.underlying56 hi .i64 0 (by omega) (by rw [hb]; omega)
theorem chan_new (w : World) (n : Nat) (h : n = w.heap.size) (o : Obj) : (w.alloc o).heap[n]? = some o := by
  subst h; show (w.heap.push o)[_]? = _; simp

set_option maxRecDepth 100000 in
theorem wait_ok (a0 : Int) (a1 : ByteArray) (a2 : Int) (a4 : ByteArray) (a5 : Int) (w : World) :
    Calls Yba.prog 3 #[.int .i32 a0, .string a1, .int .i64 a2, .bool false, .string a4, .int .i64 a5, .bool true, .bool false] w fun e w' => e = .returned (.bool true) ∧ Below w.heap.size w w' := by
  have hpn := ptr_neq
  have hai := assert_int
  have hmk := mk0
  refine calls_of_wpN Yba.func3 rfl ?_
  simp only [Yba.ntmps3, List.size_toArray, List.length_cons, List.length_nil, Nat.reduceAdd, Nat.reduceSub, Array.replicate_succ, Array.replicate_zero, List.push_toArray, List.append_toArray, List.nil_append, List.cons_append]
  refine wpN_seq_k fun K hK => ?_
  go_wp2
  refine wpN_seq_k fun K hK => ?_
  go_wp2
  refine wpN_seq_k fun K hK => ?_
  go_wp2
  refine wpN_seq_k fun K hK => ?_
  go_wp2
  refine wpN_seq_k fun K hK => ?_
  go_wp2
  refine wpN_seq_k fun K hK => ?_
  go_wp2
  refine wpN_seq_k fun K hK => ?_
  go_wp2
  refine wpN_seq_k fun K hK => ?_
  go_wp2
  refine wpN_seq_k fun K hK => ?_
  go_wp2_with fail
  refine (settled_ok_wait (Pb := w.heap.size + 1) (W := w.heap.size + 1 + 1 + 1 + 1) (c := w.heap.size + 1 + 1 + 1) (a0 := a0) (a1 := a1) ⟨by simp [go_sem], by simp [go_sem], by simp [go_sem], by simp [go_sem], ⟨_, by simp [go_sem]; rfl⟩, by simp [go_sem], by simp [go_sem], fun k => by simp [go_sem], fun k => by simp [go_sem], by omega, by omega, by omega⟩ a5 ⟨by simp [go_sem], ?_, by omega, by omega, by omega, by omega, by omega⟩).mono ?_
  · repeat (first | exact chan_new _ _ (by simp) _ | rw [Below.heap_alloc _ _ _ (by simp <;> omega)])
  rintro e w1 ⟨rfl, ⟨f1, f2, f3, f4, f5, f6⟩, f7, f8, hbel⟩
  have HB : Hid (Below w.heap.size w w1) := by
    refine Below.trans ?_ (hbel w.heap.size (by omega) (by simp <;> omega) (by omega))
    repeat (first | exact Below.refl _ _ | refine Below.alloc ?_ (by simp <;> omega) _ | refine Below.setCell ?_ (by simp <;> omega) _)
  have H8 : Hid _ := f8
  clear hbel f8
  go_wp2
  refine wpN_seq_k fun K hK => ?_
  go_wp2
  refine wpN_seq_k fun K hK => ?_
  go_wp2
  refine wpN_seq ?_
  refine wpN_seq_k fun K hK => ?_
  go_wp2
  refine wpN_cond_true rfl ?_
  refine wpN_seq_k fun K hK => ?_
  go_wp2
  refine wpN_seq (wpN_select_shut (c := w.heap.size + 1 + 1 + 1) (cap := 0) (s := 0) (r := 0) (z := .agg #[]) (tm := false) rfl rfl (by simp [go_sem, execOp, rcase, Act.eval]) H8.out ?_)
  simp only [Act.put, List.setIfInBounds_toArray, List.set_cons_zero, List.set_cons_succ]
  go_wp2
  refine wpN_of ?_
  go_wp2
  refine wpN_of ?_
  go_wp2
  go_ret
  exact ⟨rfl, HB.out⟩

set_option maxRecDepth 100000 in
theorem wait_ok_caller (a0 : Int) (a1 : ByteArray) (a2 : Int) (a4 : ByteArray) (a5 : Int) (w : World) :
    Calls Yba.prog 3 #[.int .i32 a0, .string a1, .int .i64 a2, .bool false, .string a4, .int .i64 a5, .bool true, .bool true] w fun e w' => e = .returned (.bool true) ∧ Below w.heap.size w w' := by
  have hpn := ptr_neq
  have hai := assert_int
  have hmk := mk0
  refine calls_of_wpN Yba.func3 rfl ?_
  simp only [Yba.ntmps3, List.size_toArray, List.length_cons, List.length_nil, Nat.reduceAdd, Nat.reduceSub, Array.replicate_succ, Array.replicate_zero, List.push_toArray, List.append_toArray, List.nil_append, List.cons_append]
  refine wpN_seq_k fun K hK => ?_
  go_wp2
  refine wpN_seq_k fun K hK => ?_
  go_wp2
  refine wpN_seq_k fun K hK => ?_
  go_wp2
  refine wpN_seq_k fun K hK => ?_
  go_wp2
  refine wpN_seq_k fun K hK => ?_
  go_wp2
  refine wpN_seq_k fun K hK => ?_
  go_wp2
  refine wpN_seq_k fun K hK => ?_
  go_wp2
  refine wpN_seq_k fun K hK => ?_
  go_wp2
  refine wpN_seq_k fun K hK => ?_
  go_wp2_with fail
  refine (settled_ok_wait (Pb := w.heap.size + 1) (W := w.heap.size + 1 + 1 + 1 + 1) (c := w.heap.size + 1 + 1 + 1) (a0 := a0) (a1 := a1) ⟨by simp [go_sem], by simp [go_sem], by simp [go_sem], by simp [go_sem], ⟨_, by simp [go_sem]; rfl⟩, by simp [go_sem], by simp [go_sem], fun k => by simp [go_sem], fun k => by simp [go_sem], by omega, by omega, by omega⟩ a5 ⟨by simp [go_sem], ?_, by omega, by omega, by omega, by omega, by omega⟩).mono ?_
  · repeat (first | exact chan_new _ _ (by simp) _ | rw [Below.heap_alloc _ _ _ (by simp <;> omega)])
  rintro e w1 ⟨rfl, ⟨f1, f2, f3, f4, f5, f6⟩, f7, f8, hbel⟩
  have HB : Hid (Below w.heap.size w w1) := by
    refine Below.trans ?_ (hbel w.heap.size (by omega) (by simp <;> omega) (by omega))
    repeat (first | exact Below.refl _ _ | refine Below.alloc ?_ (by simp <;> omega) _ | refine Below.setCell ?_ (by simp <;> omega) _)
  have H8 : Hid _ := f8
  clear hbel f8
  go_wp2
  refine wpN_seq_k fun K hK => ?_
  go_wp2
  refine wpN_seq_k fun K hK => ?_
  go_wp2
  refine wpN_seq ?_
  refine wpN_seq_k fun K hK => ?_
  go_wp2
  refine wpN_cond_true rfl ?_
  refine wpN_seq_k fun K hK => ?_
  go_wp2
  refine wpN_seq (wpN_select_shut (c := w.heap.size + 1 + 1 + 1) (cap := 0) (s := 0) (r := 0) (z := .agg #[]) (tm := false) rfl rfl (by simp [go_sem, execOp, rcase, Act.eval]) H8.out ?_)
  simp only [Act.put, List.setIfInBounds_toArray, List.set_cons_zero, List.set_cons_succ]
  go_wp2
  refine wpN_of ?_
  go_wp2
  refine wpN_of ?_
  go_wp2
  go_ret
  exact ⟨rfl, HB.out⟩

set_option maxRecDepth 100000 in
theorem wait_err (a0 : Int) (a1 : ByteArray) (a2 : Int) (a4 : ByteArray) (a5 : Int) (w : World) :
    Calls Yba.prog 3 #[.int .i32 a0, .string a1, .int .i64 a2, .bool true, .string a4, .int .i64 a5, .bool true, .bool false] w fun e w' => e = .returned (.bool true) ∧ Below w.heap.size w w' := by
  have hpn := ptr_neq
  have hai := assert_be
  have hmk := mk0
  have hen := err_neq
  refine calls_of_wpN Yba.func3 rfl ?_
  simp only [Yba.ntmps3, List.size_toArray, List.length_cons, List.length_nil, Nat.reduceAdd, Nat.reduceSub, Array.replicate_succ, Array.replicate_zero, List.push_toArray, List.append_toArray, List.nil_append, List.cons_append]
  refine wpN_seq_k fun K hK => ?_
  go_wp2
  refine wpN_seq_k fun K hK => ?_
  go_wp2
  refine wpN_seq_k fun K hK => ?_
  go_wp2
  refine wpN_seq_k fun K hK => ?_
  go_wp2
  refine wpN_seq_k fun K hK => ?_
  go_wp2
  refine wpN_seq_k fun K hK => ?_
  go_wp2
  refine wpN_seq_k fun K hK => ?_
  go_wp2
  refine wpN_seq_k fun K hK => ?_
  go_wp2_with fail
  refine (new_any _ _).mono ?_
  rintro e w1 ⟨rfl, rfl⟩
  go_wp2
  refine wpN_seq_k fun K hK => ?_
  go_wp2_with fail
  refine (settled_err_wait (Pb := w.heap.size + 1) (W := w.heap.size + 1 + 1 + 1 + 1) (c := w.heap.size + 1 + 1 + 1) (a0 := a0) (a1 := a1) ⟨by simp [go_sem], by simp [go_sem], by simp [go_sem], by simp [go_sem], ⟨_, by simp [go_sem]; rfl⟩, by simp [go_sem], by simp [go_sem], fun k => by simp [go_sem], fun k => by simp [go_sem], by omega, by omega, by omega⟩ ⟨by simp [go_sem], ?_, by omega, by omega, by omega, by omega, by omega⟩).mono ?_
  · repeat (first | exact chan_new _ _ (by simp) _ | rw [Below.heap_alloc _ _ _ (by simp <;> omega)])
  rintro e w1 ⟨rfl, ⟨f1, f2, f3, f4, f5, f6, g7, g8⟩, f7, f8, hbel⟩
  simp only [World.size_alloc] at f6 g7 g8
  have HB : Hid (Below w.heap.size w w1) := by
    refine Below.trans ?_ (hbel w.heap.size (by omega) (by simp <;> omega) (by omega))
    repeat (first | exact Below.refl _ _ | refine Below.alloc ?_ (by simp <;> omega) _ | refine Below.setCell ?_ (by simp <;> omega) _)
  have H8 : Hid _ := f8
  clear hbel f8
  go_wp2
  refine wpN_seq_k fun K hK => ?_
  go_wp2
  refine wpN_seq_k fun K hK => ?_
  go_wp2
  refine wpN_seq ?_
  refine wpN_seq_k fun K hK => ?_
  go_wp2
  refine wpN_cond_true rfl ?_
  refine wpN_seq_k fun K hK => ?_
  go_wp2
  refine wpN_seq (wpN_select_shut (c := w.heap.size + 1 + 1 + 1) (cap := 0) (s := 0) (r := 0) (z := .agg #[]) (tm := false) rfl rfl (by simp [go_sem, execOp, rcase, Act.eval]) H8.out ?_)
  simp only [Act.put, List.setIfInBounds_toArray, List.set_cons_zero, List.set_cons_succ]
  go_wp2
  refine wpN_of ?_
  go_wp2
  refine wpN_of ?_
  go_wp2
  go_ret
  exact ⟨rfl, HB.out⟩

set_option maxRecDepth 100000 in
theorem wait_err_caller (a0 : Int) (a1 : ByteArray) (a2 : Int) (a4 : ByteArray) (a5 : Int) (w : World) :
    Calls Yba.prog 3 #[.int .i32 a0, .string a1, .int .i64 a2, .bool true, .string a4, .int .i64 a5, .bool true, .bool true] w fun e w' => e = .returned (.bool true) ∧ Below w.heap.size w w' := by
  have hpn := ptr_neq
  have hai := assert_be
  have hmk := mk0
  have hen := err_neq
  refine calls_of_wpN Yba.func3 rfl ?_
  simp only [Yba.ntmps3, List.size_toArray, List.length_cons, List.length_nil, Nat.reduceAdd, Nat.reduceSub, Array.replicate_succ, Array.replicate_zero, List.push_toArray, List.append_toArray, List.nil_append, List.cons_append]
  refine wpN_seq_k fun K hK => ?_
  go_wp2
  refine wpN_seq_k fun K hK => ?_
  go_wp2
  refine wpN_seq_k fun K hK => ?_
  go_wp2
  refine wpN_seq_k fun K hK => ?_
  go_wp2
  refine wpN_seq_k fun K hK => ?_
  go_wp2
  refine wpN_seq_k fun K hK => ?_
  go_wp2
  refine wpN_seq_k fun K hK => ?_
  go_wp2
  refine wpN_seq_k fun K hK => ?_
  go_wp2_with fail
  refine (new_any _ _).mono ?_
  rintro e w1 ⟨rfl, rfl⟩
  go_wp2
  refine wpN_seq_k fun K hK => ?_
  go_wp2_with fail
  refine (settled_err_wait (Pb := w.heap.size + 1) (W := w.heap.size + 1 + 1 + 1 + 1) (c := w.heap.size + 1 + 1 + 1) (a0 := a0) (a1 := a1) ⟨by simp [go_sem], by simp [go_sem], by simp [go_sem], by simp [go_sem], ⟨_, by simp [go_sem]; rfl⟩, by simp [go_sem], by simp [go_sem], fun k => by simp [go_sem], fun k => by simp [go_sem], by omega, by omega, by omega⟩ ⟨by simp [go_sem], ?_, by omega, by omega, by omega, by omega, by omega⟩).mono ?_
  · repeat (first | exact chan_new _ _ (by simp) _ | rw [Below.heap_alloc _ _ _ (by simp <;> omega)])
  rintro e w1 ⟨rfl, ⟨f1, f2, f3, f4, f5, f6, g7, g8⟩, f7, f8, hbel⟩
  simp only [World.size_alloc] at f6 g7 g8
  have HB : Hid (Below w.heap.size w w1) := by
    refine Below.trans ?_ (hbel w.heap.size (by omega) (by simp <;> omega) (by omega))
    repeat (first | exact Below.refl _ _ | refine Below.alloc ?_ (by simp <;> omega) _ | refine Below.setCell ?_ (by simp <;> omega) _)
  have H8 : Hid _ := f8
  clear hbel f8
  go_wp2
  refine wpN_seq_k fun K hK => ?_
  go_wp2
  refine wpN_seq_k fun K hK => ?_
  go_wp2
  refine wpN_seq ?_
  refine wpN_seq_k fun K hK => ?_
  go_wp2
  refine wpN_cond_true rfl ?_
  refine wpN_seq_k fun K hK => ?_
  go_wp2
  refine wpN_seq (wpN_select_shut (c := w.heap.size + 1 + 1 + 1) (cap := 0) (s := 0) (r := 0) (z := .agg #[]) (tm := false) rfl rfl (by simp [go_sem, execOp, rcase, Act.eval]) H8.out ?_)
  simp only [Act.put, List.setIfInBounds_toArray, List.set_cons_zero, List.set_cons_succ]
  go_wp2
  refine wpN_of ?_
  go_wp2
  refine wpN_of ?_
  go_wp2
  go_ret
  exact ⟨rfl, HB.out⟩

end Go.Proofs.Ybulkeuw
