/-
  strings.Compare at the table's keys; byKey, firstFault$1, lastOfEach$1, walked.
-/
import Derived.Test.YbulkerqFmtSort
import Derived.Lib.Bytealg
namespace Go.Proofs.YbulkerqFmt
open Go.RowKit Go.Lib

/-- The table's keys. -/
def kt (k : Nat) : ByteArray := if k = 0 then ⟨#[97]⟩ else if k = 1 then ⟨#[97, 98]⟩ else if k = 2 then ⟨#[98]⟩ else ⟨#[98, 97]⟩
/-- How two of them compare. -/
def cmpk (x y : Nat) : Int := if x < y then -1 else if y < x then 1 else 0
theorem cmpk_lt (x y : Nat) : (decide (cmpk x y < 0)) = decide (x < y) := by
  unfold cmpk
  by_cases h : x < y
  · simp [h]
  · by_cases h2 : y < x
    · simp [h, h2]
    · simp [h, h2]
theorem cmpk_eq (x y : Nat) : (cmpk x y == 0) = decide (x = y) := by
  unfold cmpk
  by_cases h : x < y
  · rw [if_pos h]; simp; omega
  · by_cases h2 : y < x
    · rw [if_neg h, if_pos h2]; simp; omega
    · rw [if_neg h, if_neg h2]; simp; omega
theorem compare_kt {x y : Nat} (hx : x < 4) (hy : y < 4) : compareBytes (kt x).data.toList (kt y).data.toList = cmpk x y := by
  match x, y, hx, hy with
  | 0, 0, _, _ => decide
  | 0, 1, _, _ => decide
  | 0, 2, _, _ => decide
  | 0, 3, _, _ => decide
  | 1, 0, _, _ => decide
  | 1, 1, _, _ => decide
  | 1, 2, _, _ => decide
  | 1, 3, _, _ => decide
  | 2, 0, _, _ => decide
  | 2, 1, _, _ => decide
  | 2, 2, _, _ => decide
  | 2, 3, _, _ => decide
  | 3, 0, _, _ => decide
  | 3, 1, _, _ => decide
  | 3, 2, _, _ => decide
  | 3, 3, _, _ => decide

theorem cmpstring_run (a b : ByteArray) (w : World) : (callFunc 34 #[.string a, .string b]).run Ybaf.prog w = .ok (.value (.int .i64 (compareBytes a.data.toList b.data.toList))) w := by
  rw [run_callFunc_extern Ybaf.func34 (by kernel_rfl) (by kernel_rfl) (by kernel_rfl) (e := Extern.BytealgCompare.compare) (by kernel_rfl), run_compareString]
  rfl
theorem compareStr (a b : ByteArray) (w : World) : Calls Ybaf.prog 16 #[.string a, .string b] w fun e w' => e = .returned (.int .i64 (compareBytes a.data.toList b.data.toList)) ∧ w' = w := by
  have hr := cmpstring_run a b w
  go_enter Ybaf.func16, Ybaf.ntmps16
  go_wp2
  go_ret
  exact ⟨rfl, rfl⟩

/-- What stands in memory: the two boxes, the flags' keys. -/
structure Env (w0 : World) (blk n fb ib cb : Nat) (F : Nat → Value) (kk : Nat → Nat) : Prop where
  cmp : w0.cell? ⟨cb, 0, none⟩ = some (.func (.func 9) #[] #[])
  its : w0.cell? ⟨ib, 0, none⟩ = some (.slice (some ⟨blk, 0, none⟩) n n)
  key : 0 < n → ∀ x, ∃ o, F x = .pointer (some ⟨fb, o, none⟩) ∧ w0.cell? ⟨fb, o, none⟩ = some (.string (kt (kk x))) ∧ kk x < 4
  cl : cb < w0.heap.size
  il : ib < w0.heap.size
  fl : fb < w0.heap.size
  cn : cb ≠ blk
  inn : ib ≠ blk
  fn : fb ≠ blk
theorem Env.on {w0 w : World} {blk n fb ib cb : Nat} {F : Nat → Value} {kk : Nat → Nat} (h : Env w0 blk n fb ib cb F kk) (b : But [blk] w0 w) : Env w blk n fb ib cb F kk := by
  obtain ⟨a1, a2, a3, a4, a5, a6, a7, a8, a9⟩ := h
  refine ⟨by rw [b.cell a4 (by simpa using a7)]; exact a1, by rw [b.cell a5 (by simpa using a8)]; exact a2, fun h0 x => ?_, by have := b.size; omega, by have := b.size; omega, by have := b.size; omega, a7, a8, a9⟩
  obtain ⟨o, e1, e2, e3⟩ := a3 h0 x
  exact ⟨o, e1, by rw [b.cell a6 (by simpa using a9)]; exact e2, e3⟩

theorem byKey_any {fb o1 o2 x y : Nat} (w : World) (hx : x < 4) (hy : y < 4) (h1 : w.cell? ⟨fb, o1, none⟩ = some (.string (kt x))) (h2 : w.cell? ⟨fb, o2, none⟩ = some (.string (kt y))) :
    Calls Ybaf.prog 10 #[.pointer (some ⟨fb, o1, none⟩), .pointer (some ⟨fb, o2, none⟩)] w fun e w' => e = .returned (.int .i64 (cmpk x y)) ∧ ∃ m, w' = w.drewN m := by
  have hc := fun w => compareStr (kt x) (kt y) w
  rw [compare_kt hx hy] at hc
  generalize kt x = A at *
  generalize kt y = B at *
  generalize cmpk x y = C at *
  go_enter Ybaf.func10, Ybaf.ntmps10
  go_wp2_with fail
  go_quiet (first | (go_at_call 16; exact Calls.quiet_of_same (hc _)))
  go_wp2
  go_ret
  exact ⟨rfl, _, rfl⟩

/-- The comparison at two places of the row. -/
theorem compare_any {blk n fb ib cb : Nat} {F E : Nat → Value} {kk : Nat → Nat} (f : Nat → Nat) (w : World) (he : Env w blk n fb ib cb F kk) (h : Rw blk n F E f w) {i j : Nat} (hi : i < n) (hj : j < n) :
    Calls Ybaf.prog 9 #[.pointer (some ⟨blk, i * 2, none⟩), .pointer (some ⟨blk, j * 2, none⟩)] w fun e w' => e = .returned (.int .i64 (cmpk (kk (f i)) (kk (f j)))) ∧ ∃ m, w' = w.drewN m := by
  obtain ⟨ci, _, _⟩ := h.cells hi
  obtain ⟨cj, _, _⟩ := h.cells hj
  obtain ⟨o1, e1, k1, l1⟩ := he.key (by omega) (f i)
  obtain ⟨o2, e2, k2, l2⟩ := he.key (by omega) (f j)
  rw [e1] at ci
  rw [e2] at cj
  have hc : ∀ m, Calls Ybaf.prog 10 #[.pointer (some ⟨fb, o1, none⟩), .pointer (some ⟨fb, o2, none⟩)] (w.drewN m) fun e w' => e = .returned (.int .i64 (cmpk (kk (f i)) (kk (f j)))) ∧ ∃ k, w' = (w.drewN m).drewN k := fun m => byKey_any (w.drewN m) l1 l2 k1 k2
  generalize cmpk (kk (f i)) (kk (f j)) = C at *
  generalize i * 2 = a at *
  generalize j * 2 = b at *
  clear he h k1 k2 e1 e2 l1 l2 hi hj
  have HC : Hid (∀ m : Nat, Calls Ybaf.prog _ _ (w.drewN m) _) := hc
  clear hc
  go_enter Ybaf.func9, Ybaf.ntmps9
  go_wp2_with fail
  go_quiet (first | (go_at_call 10; exact Calls.quiet_of (HC.out _)))
  go_wp2
  go_ret
  exact ⟨rfl, _, rfl⟩

/-- less. -/
theorem less_ok {w0 : World} {blk n fb ib cb : Nat} {F E : Nat → Value} {kk : Nat → Nat} (he0 : Env w0 blk n fb ib cb F kk) : LsOk w0 blk n F E kk (.pointer (some ⟨cb, 0, none⟩)) (.pointer (some ⟨ib, 0, none⟩)) := by
  intro f w hb h i j hi hj
  have he := he0.on hb
  have c1 := he.cmp
  have c2 := he.its
  have hc : ∀ m, Calls Ybaf.prog 9 #[.pointer (some ⟨blk, i * 2, none⟩), .pointer (some ⟨blk, j * 2, none⟩)] (w.drewN m) fun e w' => e = .returned (.int .i64 (cmpk (kk (f i)) (kk (f j)))) ∧ ∃ k, w' = (w.drewN m).drewN k := fun m => compare_any f (w.drewN m) (he.on ((But.refl _ w).drewN m)) (h.drewN m) hi hj
  have hlt : decide (cmpk (kk (f i)) (kk (f j)) < 0) = decide (kk (f i) < kk (f j)) := cmpk_lt _ _
  generalize cmpk (kk (f i)) (kk (f j)) = C at *
  generalize decide (kk (f i) < kk (f j)) = D at *
  have i0 : (0 : Int) ≤ (i : Int) := by omega
  have i1 : (i : Int) < (n : Int) := by omega
  have j0 : (0 : Int) ≤ (j : Int) := by omega
  have j1 : (j : Int) < (n : Int) := by omega
  have HC : Hid (∀ m : Nat, Calls Ybaf.prog _ _ (w.drewN m) _) := hc
  clear hc hb he h he0
  go_enter Ybaf.func15, Ybaf.ntmps15
  go_wp2_with fail
  go_quiet (first | (go_at_call 9; exact Calls.quiet_of (HC.out _)))
  go_wp2
  go_ret
  exact ⟨rfl, _, rfl⟩
end Go.Proofs.YbulkerqFmt
