/-
  insertionSort_func, walked.
-/
import Derived.Test.YbulkerqFmtSwap
namespace Go.Proofs.YbulkerqFmt
open Go.RowKit Go.Lib

set_option maxRecDepth 100000 in
theorem insertion_any {w0 : World} {blk n c : Nat} {F E : Nat → Value} {kk : Nat → Nat} {l1 l2 th : Value} (hls : LsOk w0 blk n F E kk l1 l2) (hsw : SwOk blk n c F E th) (hn : n ≤ 1024) (f : Nat → Nat) (w : World) (hb0 : But [blk] w0 w) (h : Rw blk n F E f w) (a b : Nat) (hab : a ≤ b) (hb : b ≤ n) (hinc : ∀ p q, a ≤ p → p < q → q < b → f p < f q) :
    Calls Ybaf.prog 32 #[.agg #[.func (.func 15) #[] #[l1, l2], .func (.func 31) #[] #[.slice (some ⟨blk, 0, none⟩) n c, th]], .int .i64 (a : Int), .int .i64 (b : Int)] w fun r w' => r = .returned (.tuple #[]) ∧ ∃ g, Rw blk n F E g w' ∧ Mix a b f g ∧ Srt kk a b g ∧ But [blk] w w' := by
  have hlt := h.lt
  have H0 : Hid (Rw blk n F E f (w.alloc (DO l1 l2 th blk n c))) := h.alloc _
  have HSW : Hid (SwOk blk n c F E th) := hsw
  have HLS : Hid (LsOk w0 blk n F E kk l1 l2) := hls
  have HB0 : Hid (But [blk] w0 (w.alloc (DO l1 l2 th blk n c))) := hb0.alloc _
  have HI : Hid (∀ p q, a ≤ p → p < q → q < b → f p < f q) := hinc
  have e1 : IntKind.i64.wrap ((a : Int) + 1) = ((a + 1 : Nat) : Int) := by rw [IntKind.wrap_i64]; omega
  clear h hsw hls hb0 hinc
  go_enter Ybaf.func32, Ybaf.ntmps32
  go_wp2_with fail
  go_loopg [6] (b - (a + 1)) (fun k s6 wr => ∃ (i : Nat) (g : Nat → Nat), a + 1 ≤ i ∧ (i ≤ b ∨ i = a + 1) ∧ k = b - i ∧ s6 = .int .i64 (i : Int) ∧ Rw blk n F E g wr ∧ Mix a i f g ∧ Srt kk a i g ∧ But [blk] (w.alloc (DO l1 l2 th blk n c)) wr)
  case atStart => exact ⟨a + 1, f, Nat.le_refl _, Or.inr rfl, rfl, rfl, H0.out, Mix.refl _ _ _, Srt.small (Nat.le_refl _), But.refl _ _⟩
  case round =>
    obtain ⟨i, g, hai, hib, rfl, rfl, hr, hmx, hst, hbt⟩ := hrel
    have HR : Hid (Rw blk n F E g wr) := hr
    have HM : Hid (Mix a i f g) := hmx
    have HS : Hid (Srt kk a i g) := hst
    have HB : Hid (But [blk] (w.alloc (DO l1 l2 th blk n c)) wr) := hbt
    clear hr hmx hst hbt e1
    by_cases hlt2 : i < b
    · have hz : (i : Int) < (b : Int) := by omega
      have HV : Hid (∀ p, a ≤ p → p < i → g p < g i) := fun p p1 p2 => by
        obtain ⟨q, q1, q2, e⟩ := HM.out.into p p1 p2
        rw [e, HM.out.out i (Or.inr (Nat.le_refl _))]
        exact HI.out q i q1 q2 hlt2
      go_wp2_with fail
      go_loopg [7] i (fun k s7 wy => ∃ j : Nat, a ≤ j ∧ j ≤ i ∧ k = j ∧ s7 = .int .i64 (j : Int) ∧ Rw blk n F E (ins g i j) wy ∧ Mix a (i + 1) f (ins g i j) ∧ (∀ p, j ≤ p → p < i → R kk (g i) (g p)) ∧ But [blk] (w.alloc (DO l1 l2 th blk n c)) wy)
      case atStart => exact ⟨i, by omega, Nat.le_refl _, rfl, rfl, by rw [ins_self]; exact HR.out, by rw [ins_self]; exact HM.out.mono (Nat.le_refl _) (by omega), fun p p1 p2 => by omega, HB.out⟩
      case round =>
        obtain ⟨j, haj, hji, rfl, rfl, hr, hmx, hup, hbt⟩ := hrel
        have hb4 : wr.heap[w.heap.size]? = some (DO l1 l2 th blk n c) := by
          rw [hbt.block w.heap.size (by simp) (by simp; omega)]; exact blk_new w _
        have c0 : wr.cell? ⟨w.heap.size, 0, none⟩ = some (.func (.func 15) #[] #[l1, l2]) := by rw [blk_cell hb4]; rfl
        have c1 : ∀ m, (wr.drewN m).cell? ⟨w.heap.size, 1, none⟩ = some (.func (.func 31) #[] #[.slice (some ⟨blk, 0, none⟩) n c, th]) := fun m => by show wr.cell? _ = _; rw [blk_cell hb4]; rfl
        have HR2 : Hid (Rw blk n F E (ins g i gk) wr) := hr
        have HM2 : Hid (Mix a (i + 1) f (ins g i gk)) := hmx
        have HU : Hid (∀ p, gk ≤ p → p < i → R kk (g i) (g p)) := hup
        have HB2 : Hid (But [blk] (w.alloc (DO l1 l2 th blk n c)) wr) := hbt
        clear hr hmx hup hbt hb4
        by_cases hja : a < gk
        · have hz2 : (a : Int) < (gk : Int) := by omega
          have e3 : IntKind.i64.wrap ((gk : Int) - 1) = ((gk - 1 : Nat) : Int) := by rw [IntKind.wrap_i64]; omega
          have e3' : (gk : Int) - 1 = ((gk - 1 : Nat) : Int) := by omega
          have hcall := HLS.out _ wr (HB0.out.trans HB2.out) HR2.out gk (gk - 1) (by omega) (by omega)
          have v1 : ins g i gk gk = g i := by simp [ins]
          have v2 : ins g i gk (gk - 1) = g (gk - 1) := by simp only [ins]; rw [if_neg (by omega), if_neg (by omega)]
          rw [v1, v2] at hcall
          have HC : Hid (Calls Ybaf.prog 15 _ wr _) := hcall
          clear hcall v1 v2
          go_wp2_with fail
          refine HC.out.mono ?_
          rintro r w' ⟨rfl, m, rfl⟩
          by_cases hle : kk (g i) < kk (g (gk - 1))
          · rw [decide_eq_true hle]
            obtain ⟨w'', hrun, hr', hb'⟩ := HSW.out _ (wr.drewN m) HR2.out gk (gk - 1) (by omega) (by omega)
            rw [ins_step g (by omega) hji] at hr'
            have HR' : Hid (Rw blk n F E (ins g i (gk - 1)) w'') := hr'
            have HB' : Hid (But [blk] (wr.drewN m) w'') := hb'
            have HM' : Hid (Mix a (i + 1) f (ins g i (gk - 1))) := by rw [← ins_step g (by omega) hji]; exact HM2.out.trans (Mix.swp _ (by omega) (by omega) (by omega) (by omega))
            have HU' : Hid (∀ p, gk - 1 ≤ p → p < i → R kk (g i) (g p)) := fun p p1 p2 => by
              rcases Nat.lt_or_ge p gk with hp | hp
              · rw [show p = gk - 1 from by omega]; exact Or.inl hle
              · exact HU.out p hp p2
            clear hr' hb' hle
            go_wp2
            go_roundg (gk - 1)
            case measure => omega
            case rel => exact ⟨gk - 1, by omega, by omega, rfl, rfl, HR'.out, HM'.out, HU'.out, (HB2.out.drewN m).trans HB'.out⟩
          · rw [decide_eq_false hle]
            have HX : Hid (Srt kk a (i + 1) (ins g i gk)) := ins_sorted HS.out haj hji HU.out (fun p p1 p2 => by
              have hv := HV.out (gk - 1) (by omega) (by omega)
              have r1 : R kk (g (gk - 1)) (g i) := by unfold R; omega
              rcases Nat.lt_or_ge p (gk - 1) with hp | hp
              · exact (HS.out p (gk - 1) p1 hp (by omega)).trans r1
              · rw [show p = gk - 1 from by omega]; exact r1)
            clear hle
            go_wp2
            go_roundg (b - (i + 1))
            case measure => omega
            case rel => exact ⟨i + 1, _, by omega, Or.inl (by omega), rfl, by go_num, HR2.out, HM2.out, HX.out, HB2.out.drewN m⟩
        · obtain rfl : gk = a := by omega
          have hz2 : ¬ (gk : Int) < (gk : Int) := by omega
          have HX : Hid (Srt kk gk (i + 1) (ins g i gk)) := ins_sorted HS.out (Nat.le_refl _) hji HU.out (fun p p1 p2 => by omega)
          go_wp2
          go_roundg (b - (i + 1))
          case measure => omega
          case rel => exact ⟨i + 1, _, by omega, Or.inl (by omega), rfl, by go_num, HR2.out, HM2.out, HX.out, HB2.out⟩
    · have hz : ¬ (i : Int) < (b : Int) := by omega
      have HX : Hid (Mix a b f g ∧ Srt kk a b g) := by
        rcases hib with hib | hib
        · obtain rfl : i = b := by omega
          exact ⟨HM.out, HS.out⟩
        · have e : b = a ∨ b = a + 1 := by omega
          refine ⟨?_, Srt.small (by omega)⟩
          rcases e with e | e
          · have hg : ∀ p, g p = f p := fun p => by
              by_cases hp : p = a
              · obtain ⟨q, q1, q2, eq⟩ := HM.out.into a (Nat.le_refl _) (by omega)
                rw [hp, eq, show q = a from by omega]
              · exact HM.out.out p (by omega)
            exact (Mix.refl a b f).congr hg
          · rw [hib] at HM; rw [e]; exact HM.out
      go_wp2
      go_end0
      exact ⟨rfl, g, HR.out, HX.out.1, HX.out.2, ((But.refl _ w).alloc _).trans HB.out⟩
end Go.Proofs.YbulkerqFmt
