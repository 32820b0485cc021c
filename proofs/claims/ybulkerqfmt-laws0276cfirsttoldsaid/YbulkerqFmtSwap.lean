/-
  swapRange_func, rotate_func, walked.
-/
import Derived.Test.YbulkerqFmtRow
import Derived.WalkLawsBesides
import Derived.WalkSpells
import Derived.RegionTactic
import Derived.Deep.QuietTactic
import Derived.Deep.LoopGhost
import Derived.Laws.EntriesVeiled
namespace Go.Proofs.YbulkerqFmt
open Go.RowKit Go.Lib

/-- What is asked of swap. -/
def SwOk (blk n c : Nat) (F E : Nat → Value) (th : Value) : Prop := ∀ (f : Nat → Nat) (w : World), Rw blk n F E f w → ∀ i j : Nat, i < n → j < n → ∃ w', (callFunc 31 #[.int .i64 (i : Int), .int .i64 (j : Int), .slice (some ⟨blk, 0, none⟩) n c, th]).run Ybaf.prog w = .ok (.value (.tuple #[])) w' ∧ Rw blk n F E (swp f i j) w' ∧ But [blk] w w'
/-- What is asked of less. -/
def LsOk (w0 : World) (blk n : Nat) (F E : Nat → Value) (kk : Nat → Nat) (l1 l2 : Value) : Prop := ∀ (f : Nat → Nat) (w : World), But [blk] w0 w → Rw blk n F E f w → ∀ i j : Nat, i < n → j < n → Calls Ybaf.prog 15 #[.int .i64 (i : Int), .int .i64 (j : Int), l1, l2] w fun e w' => e = .returned (.bool (decide (kk (f i) < kk (f j)))) ∧ ∃ m, w' = w.drewN m

/-- The pair of functions, boxed. -/
def DO (l1 l2 th : Value) (blk n c : Nat) : Obj := .cells #[.func (.func 15) #[] #[l1, l2], .func (.func 31) #[] #[.slice (some ⟨blk, 0, none⟩) n c, th]] 82 (0, 0)

set_option maxRecDepth 100000 in
theorem swapRange_any {blk n c : Nat} {F E : Nat → Value} {l1 l2 th : Value} (hsw : SwOk blk n c F E th) (hn : n ≤ 1024) (f : Nat → Nat) (w : World) (h : Rw blk n F E f w) (a b m : Nat) (ha : a + m ≤ b) (hb : b + m ≤ n) :
    Calls Ybaf.prog 36 #[.agg #[.func (.func 15) #[] #[l1, l2], .func (.func 31) #[] #[.slice (some ⟨blk, 0, none⟩) n c, th]], .int .i64 (a : Int), .int .i64 (b : Int), .int .i64 (m : Int)] w fun e w' => e = .returned (.tuple #[]) ∧ Rw blk n F E (swr f a b m) w' ∧ But [blk] w w' := by
  have hlt := h.lt
  have H0 : Hid (Rw blk n F E f (w.alloc (DO l1 l2 th blk n c))) := h.alloc _
  have HSW : Hid (SwOk blk n c F E th) := hsw
  clear h hsw
  go_enter Ybaf.func36, Ybaf.ntmps36
  go_wp2_with fail
  go_loopg [8] m (fun k s8 wr => ∃ i : Nat, i ≤ m ∧ k = m - i ∧ s8 = .int .i64 (i : Int) ∧ Rw blk n F E (swr f a b i) wr ∧ But [blk] (w.alloc (DO l1 l2 th blk n c)) wr)
  case atStart => exact ⟨0, Nat.zero_le _, rfl, rfl, by rw [swr_zero]; exact H0.out, But.refl _ _⟩
  case round =>
    obtain ⟨i, hi, rfl, rfl, hr, hbt⟩ := hrel
    have hb4 : wr.heap[w.heap.size]? = some (DO l1 l2 th blk n c) := by
      rw [hbt.block w.heap.size (by simp) (by simp; omega)]; exact blk_new w _
    have HR : Hid (Rw blk n F E (swr f a b i) wr) := hr
    have HB : Hid (But [blk] (w.alloc (DO l1 l2 th blk n c)) wr) := hbt
    clear hr hbt
    by_cases hlt2 : i < m
    · have hz : (i : Int) < (m : Int) := by omega
      have c1 : wr.cell? ⟨w.heap.size, 1, none⟩ = some (.func (.func 31) #[] #[.slice (some ⟨blk, 0, none⟩) n c, th]) := by rw [blk_cell hb4]; rfl
      obtain ⟨w', hrun, hr', hb'⟩ := HSW.out _ wr HR.out (a + i) (b + i) (by omega) (by omega)
      rw [show ((a + i : Nat) : Int) = (a : Int) + (i : Int) from by omega, show ((b + i : Nat) : Int) = (b : Int) + (i : Int) from by omega] at hrun
      rw [swr_step f (by omega)] at hr'
      have HR' : Hid (Rw blk n F E (swr f a b (i + 1)) w') := hr'
      have HB' : Hid (But [blk] wr w') := hb'
      have hwa : IntKind.i64.wrap ((a : Int) + (i : Int)) = (a : Int) + (i : Int) := by rw [IntKind.wrap_i64]; omega
      have hwb : IntKind.i64.wrap ((b : Int) + (i : Int)) = (b : Int) + (i : Int) := by rw [IntKind.wrap_i64]; omega
      clear hr' hb' hb4
      go_wp2
      go_roundg (m - (i + 1))
      case measure => omega
      case rel => exact ⟨i + 1, by omega, rfl, by go_num, HR'.out, HB.out.trans HB'.out⟩
    · obtain rfl : i = m := by omega
      go_wp2
      go_end0
      exact ⟨rfl, HR.out, ((But.refl _ w).alloc _).trans HB.out⟩

set_option maxRecDepth 100000 in
theorem rotate_any {blk n c : Nat} {F E : Nat → Value} {l1 l2 th : Value} (hsw : SwOk blk n c F E th) (hn : n ≤ 1024) (f : Nat → Nat) (w : World) (h : Rw blk n F E f w) (s m e : Nat) (hs : s < m) (hm : m < e) (he : e ≤ n) :
    Calls Ybaf.prog 35 #[.agg #[.func (.func 15) #[] #[l1, l2], .func (.func 31) #[] #[.slice (some ⟨blk, 0, none⟩) n c, th]], .int .i64 (s : Int), .int .i64 (m : Int), .int .i64 (e : Int)] w fun r w' => r = .returned (.tuple #[]) ∧ Rw blk n F E (rot f s m e) w' ∧ But [blk] w w' := by
  have hlt := h.lt
  have H0 : Hid (Rw blk n F E f (w.alloc (DO l1 l2 th blk n c))) := h.alloc _
  have HSW : Hid (SwOk blk n c F E th) := hsw
  have e1 : IntKind.i64.wrap ((m : Int) - (s : Int)) = ((m - s : Nat) : Int) := by rw [IntKind.wrap_i64]; omega
  have e2 : IntKind.i64.wrap ((e : Int) - (m : Int)) = ((e - m : Nat) : Int) := by rw [IntKind.wrap_i64]; omega
  have e1' : (m : Int) - (s : Int) = ((m - s : Nat) : Int) := by omega
  have e2' : (e : Int) - (m : Int) = ((e - m : Nat) : Int) := by omega
  clear h hsw
  go_enter Ybaf.func35, Ybaf.ntmps35
  go_wp2_with fail
  clear e1 e2 e1' e2'
  go_loopg [8, 9] ((m - s) + (e - m)) (fun k s8 s9 wr => ∃ (i j : Nat) (g : Nat → Nat), 0 < i ∧ 0 < j ∧ k = i + j ∧ s8 = .int .i64 (i : Int) ∧ s9 = .int .i64 (j : Int) ∧ Rt f s m e i j g ∧ Rw blk n F E g wr ∧ But [blk] (w.alloc (DO l1 l2 th blk n c)) wr)
  case atStart => exact ⟨m - s, e - m, f, by omega, by omega, rfl, rfl, rfl, Rt.start f (by omega) (by omega), H0.out, But.refl _ _⟩
  case round =>
    obtain ⟨i, j, g, hi, hj, rfl, rfl, rfl, hrt, hr, hbt⟩ := hrel
    have hb4 : wr.heap[w.heap.size]? = some (DO l1 l2 th blk n c) := by
      rw [hbt.block w.heap.size (by simp) (by simp; omega)]; exact blk_new w _
    have c0 : wr.cell? ⟨w.heap.size, 0, none⟩ = some (.func (.func 15) #[] #[l1, l2]) := by rw [blk_cell hb4]; rfl
    have c1 : wr.cell? ⟨w.heap.size, 1, none⟩ = some (.func (.func 31) #[] #[.slice (some ⟨blk, 0, none⟩) n c, th]) := by rw [blk_cell hb4]; rfl
    have hsi := hrt.si
    have hej := hrt.ej
    have HT : Hid (Rt f s m e i j g) := hrt
    have HR : Hid (Rw blk n F E g wr) := hr
    have HB : Hid (But [blk] (w.alloc (DO l1 l2 th blk n c)) wr) := hbt
    clear hrt hr hbt hb4
    have e3 : IntKind.i64.wrap ((m : Int) - (i : Int)) = ((m - i : Nat) : Int) := by rw [IntKind.wrap_i64]; omega
    have e3' : (m : Int) - (i : Int) = ((m - i : Nat) : Int) := by omega
    rcases Nat.lt_trichotomy i j with hij | hij | hij
    · have z1 : ¬ (i : Int) = (j : Int) := by omega
      have z2 : ¬ (j : Int) < (i : Int) := by omega
      have e4 : IntKind.i64.wrap ((m : Int) + (j : Int)) = (m : Int) + (j : Int) := by rw [IntKind.wrap_i64]; omega
      have e5 : IntKind.i64.wrap ((m : Int) + (j : Int) - (i : Int)) = ((m + j - i : Nat) : Int) := by rw [IntKind.wrap_i64]; omega
      have e5' : (m : Int) + (j : Int) - (i : Int) = ((m + j - i : Nat) : Int) := by omega
      have e6 : IntKind.i64.wrap ((j : Int) - (i : Int)) = ((j - i : Nat) : Int) := by rw [IntKind.wrap_i64]; omega
      have e6' : (j : Int) - (i : Int) = ((j - i : Nat) : Int) := by omega
      go_wp2_with fail
      refine (swapRange_any HSW.out hn g wr HR.out (m - i) (m + j - i) i (by omega) (by omega)).mono ?_
      rintro r w' ⟨rfl, hr', hb'⟩
      have HR' : Hid (Rw blk n F E (swr g (m - i) (m + j - i) i) w') := hr'
      have HB' : Hid (But [blk] wr w') := hb'
      clear hr' hb'
      go_wp2
      go_roundg (i + (j - i))
      case measure => omega
      case rel => exact ⟨i, j - i, _, hi, by omega, rfl, rfl, rfl, HT.out.less hij, HR'.out, HB.out.trans HB'.out⟩
    · subst hij
      go_wp2_with fail
      refine (swapRange_any HSW.out hn g wr HR.out (m - i) m i (by omega) (by omega)).mono ?_
      rintro r w' ⟨rfl, hr', hb'⟩
      rw [HT.out.last] at hr'
      have HR' : Hid (Rw blk n F E (rot f s m e) w') := hr'
      have HB' : Hid (But [blk] wr w') := hb'
      clear hr' hb'
      go_wp2
      go_end0
      exact ⟨rfl, HR'.out, (((But.refl _ w).alloc _).trans HB.out).trans HB'.out⟩
    · have z1 : ¬ (i : Int) = (j : Int) := by omega
      have z2 : (j : Int) < (i : Int) := by omega
      have e6 : IntKind.i64.wrap ((i : Int) - (j : Int)) = ((i - j : Nat) : Int) := by rw [IntKind.wrap_i64]; omega
      have e6' : (i : Int) - (j : Int) = ((i - j : Nat) : Int) := by omega
      go_wp2_with fail
      refine (swapRange_any HSW.out hn g wr HR.out (m - i) m j (by omega) (by omega)).mono ?_
      rintro r w' ⟨rfl, hr', hb'⟩
      have HR' : Hid (Rw blk n F E (swr g (m - i) m j) w') := hr'
      have HB' : Hid (But [blk] wr w') := hb'
      clear hr' hb'
      go_wp2
      go_roundg ((i - j) + j)
      case measure => omega
      case rel => exact ⟨i - j, j, _, by omega, hj, rfl, rfl, rfl, HT.out.more hij, HR'.out, HB.out.trans HB'.out⟩
end Go.Proofs.YbulkerqFmt
