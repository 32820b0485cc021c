/-
  symMerge_func, walked.
-/
import Derived.Test.YbulkerqFmtIns
namespace Go.Proofs.YbulkerqFmt
open Go.RowKit Go.Lib

set_option maxRecDepth 100000 in
theorem merge_left {w0 : World} {blk n c : Nat} {F E : Nat → Value} {kk : Nat → Nat} {l1 l2 th : Value} (hls : LsOk w0 blk n F E kk l1 l2) (hsw : SwOk blk n c F E th) (hn : n ≤ 1024) (f : Nat → Nat) (w : World) (hb0 : But [blk] w0 w) (h : Rw blk n F E f w) (a b : Nat) (hab : a + 1 < b) (hb : b ≤ n) (hs2 : Srt kk (a + 1) b f) (hst : Stb kk a (a + 1) b f) :
    Calls Ybaf.prog 33 #[.agg #[.func (.func 15) #[] #[l1, l2], .func (.func 31) #[] #[.slice (some ⟨blk, 0, none⟩) n c, th]], .int .i64 (a : Int), .int .i64 ((a + 1 : Nat) : Int), .int .i64 (b : Int)] w fun r w' => r = .returned (.tuple #[]) ∧ ∃ g, Rw blk n F E g w' ∧ Mix a b f g ∧ Srt kk a b g ∧ But [blk] w w' := by
  have hlt := h.lt
  have H0 : Hid (Rw blk n F E f (w.alloc (DO l1 l2 th blk n c))) := h.alloc _
  have HSW : Hid (SwOk blk n c F E th) := hsw
  have HLS : Hid (LsOk w0 blk n F E kk l1 l2) := hls
  have HB0 : Hid (But [blk] w0 (w.alloc (DO l1 l2 th blk n c))) := hb0.alloc _
  have HS2 : Hid (Srt kk (a + 1) b f) := hs2
  have HST : Hid (Stb kk a (a + 1) b f) := hst
  obtain ⟨m, hm⟩ : ∃ m, m = a + 1 := ⟨_, rfl⟩
  rw [← hm]
  have e1 : IntKind.i64.wrap ((m : Int) - (a : Int)) = 1 := by rw [IntKind.wrap_i64]; omega
  have e1' : (m : Int) - (a : Int) = 1 := by omega
  clear h hsw hls hb0 hs2 hst
  have HM : Hid (m = a + 1) := hm
  clear hm
  go_enter Ybaf.func33, Ybaf.ntmps33
  go_wp2_with fail
  clear e1 e1'
  go_loopg [8, 9] (b - m) (fun k s8 s9 wr => ∃ i j : Nat, m ≤ i ∧ i ≤ j ∧ j ≤ b ∧ k = j - i ∧ s8 = .int .i64 (i : Int) ∧ s9 = .int .i64 (j : Int) ∧ (∀ p, m ≤ p → p < i → R kk (f p) (f a)) ∧ (∀ p, j ≤ p → p < b → R kk (f a) (f p)) ∧ Rw blk n F E f wr ∧ But [blk] (w.alloc (DO l1 l2 th blk n c)) wr)
  case atStart => have hm := HM.out; exact ⟨m, b, Nat.le_refl _, by omega, Nat.le_refl _, rfl, rfl, rfl, fun p p1 p2 => by omega, fun p p1 p2 => by omega, H0.out, But.refl _ _⟩
  case round =>
    obtain ⟨i, j, hmi, hij, hjb, rfl, rfl, rfl, hlo, hhi, hr, hbt⟩ := hrel
    have hb4 : wr.heap[w.heap.size]? = some (DO l1 l2 th blk n c) := by
      rw [hbt.block w.heap.size (by simp) (by simp; omega)]; exact blk_new w _
    have c0 : wr.cell? ⟨w.heap.size, 0, none⟩ = some (.func (.func 15) #[] #[l1, l2]) := by rw [blk_cell hb4]; rfl
    have HR : Hid (Rw blk n F E f wr) := hr
    have HB : Hid (But [blk] (w.alloc (DO l1 l2 th blk n c)) wr) := hbt
    have HLO : Hid _ := hlo
    have HHI : Hid _ := hhi
    clear hr hbt hb4 hlo hhi
    by_cases hlt2 : i < j
    · have hz : (i : Int) < (j : Int) := by omega
      obtain ⟨hv, hh⟩ : ∃ hv : Nat, (i + j) / 2 = hv := ⟨_, rfl⟩
      have hh' : ((i : Int) + (j : Int)) / 2 = (hv : Int) := by omega
      have hm := HM.out
      have HC : Hid (Calls Ybaf.prog 15 _ wr _) := HLS.out f wr (HB0.out.trans HB.out) HR.out hv a (by omega) (by omega)
      have h1 : i ≤ hv := by omega
      have h2 : hv < j := by omega
      clear hh
      go_wp2_with fail
      refine HC.out.mono ?_
      rintro r w' ⟨rfl, q, rfl⟩
      by_cases hle : kk (f hv) < kk (f a)
      · rw [decide_eq_true hle]
        have HLO' : Hid (∀ p, m ≤ p → p < hv + 1 → R kk (f p) (f a)) := fun p p1 p2 => by
          rcases Nat.lt_or_ge p hv with hp | hp
          · exact (HS2.out p hv (by omega) hp (by omega)).trans (Or.inl hle)
          · rw [show p = hv from by omega]; exact Or.inl hle
        clear hle hm
        go_wp2
        go_roundg (j - (hv + 1))
        case measure => omega
        case rel => exact ⟨hv + 1, j, by omega, by omega, hjb, rfl, by go_num, rfl, HLO'.out, HHI.out, HR.out, HB.out.drewN q⟩
      · rw [decide_eq_false hle]
        have HHI' : Hid (∀ p, hv ≤ p → p < b → R kk (f a) (f p)) := fun p p1 p2 => by
          have r1 := HST.out.no (Nat.le_refl a) (by omega) (show a + 1 ≤ hv by omega) (by omega) hle
          rcases Nat.lt_or_ge hv p with hp | hp
          · exact r1.trans (HS2.out hv p (by omega) hp p2)
          · rw [show p = hv from by omega]; exact r1
        clear hle hm
        go_wp2
        go_roundg (hv - i)
        case measure => omega
        case rel => exact ⟨i, hv, hmi, h1, by omega, rfl, rfl, rfl, HLO.out, HHI'.out, HR.out, HB.out.drewN q⟩
    · obtain rfl : i = j := by omega
      have hz : ¬ (i : Int) < (i : Int) := by omega
      obtain ⟨i', hi'⟩ : ∃ i', i = i' + 1 := ⟨i - 1, by have := HM.out; omega⟩
      subst hi'
      have e4 : IntKind.i64.wrap (((i' + 1 : Nat) : Int) - 1) = (i' : Int) := by rw [IntKind.wrap_i64]; omega
      have e4' : ((i' + 1 : Nat) : Int) - 1 = (i' : Int) := by omega
      go_wp2_with fail
      go_loopg [11] (i' - a) (fun k s11 wy => ∃ t : Nat, a ≤ t ∧ t ≤ i' ∧ k = i' - t ∧ s11 = .int .i64 (t : Int) ∧ Rw blk n F E (ups f a t) wy ∧ Mix a b f (ups f a t) ∧ But [blk] (w.alloc (DO l1 l2 th blk n c)) wy)
      case atStart => have hm := HM.out; exact ⟨a, Nat.le_refl _, by omega, rfl, rfl, by rw [ups_self]; exact HR.out, by rw [ups_self]; exact Mix.refl _ _ _, HB.out⟩
      case round =>
        obtain ⟨t, hat, hti, rfl, rfl, hr, hmx, hbt⟩ := hrel
        have hb4 : wr.heap[w.heap.size]? = some (DO l1 l2 th blk n c) := by
          rw [hbt.block w.heap.size (by simp) (by simp; omega)]; exact blk_new w _
        have c1 : wr.cell? ⟨w.heap.size, 1, none⟩ = some (.func (.func 31) #[] #[.slice (some ⟨blk, 0, none⟩) n c, th]) := by rw [blk_cell hb4]; rfl
        have HR2 : Hid (Rw blk n F E (ups f a t) wr) := hr
        have HM2 : Hid (Mix a b f (ups f a t)) := hmx
        have HB2 : Hid (But [blk] (w.alloc (DO l1 l2 th blk n c)) wr) := hbt
        clear hr hmx hbt hb4
        by_cases hti2 : t < i'
        · have hz2 : (t : Int) < (i' : Int) := by omega
          obtain ⟨w'', hrun, hr', hb'⟩ := HSW.out _ wr HR2.out t (t + 1) (by omega) (by omega)
          rw [ups_step f hat] at hr'
          have HR' : Hid (Rw blk n F E (ups f a (t + 1)) w'') := hr'
          have HB' : Hid (But [blk] wr w'') := hb'
          have HM' : Hid (Mix a b f (ups f a (t + 1))) := by rw [← ups_step f hat]; exact HM2.out.trans (Mix.swp _ hat (by omega) (by omega) (by omega))
          rw [show ((t + 1 : Nat) : Int) = (t : Int) + 1 from by omega] at hrun
          clear hr' hb'
          go_wp2
          go_roundg (i' - (t + 1))
          case measure => omega
          case rel => exact ⟨t + 1, by omega, by omega, rfl, by go_num, HR'.out, HM'.out, HB2.out.trans HB'.out⟩
        · obtain rfl : t = i' := by omega
          have hz2 : ¬ (t : Int) < (t : Int) := by omega
          have HX : Hid (Srt kk a b (ups f a t)) := by
            have hm := HM.out
            exact ups_sorted HS2.out hat (by omega) (fun p p1 p2 => HHI.out p (by omega) p2) (fun p p1 p2 => HLO.out p (by omega) (by omega))
          go_wp2
          first | go_end0 | ((try simp only [Exit.inBlock, Exit.then]); refine bodyPost_ret (results_none rfl _ _ _) rfl ?_)
          exact ⟨rfl, _, HR2.out, HM2.out, HX.out, ((But.refl _ w).alloc _).trans HB2.out⟩

set_option maxRecDepth 100000 in
theorem merge_right {w0 : World} {blk n c : Nat} {F E : Nat → Value} {kk : Nat → Nat} {l1 l2 th : Value} (hls : LsOk w0 blk n F E kk l1 l2) (hsw : SwOk blk n c F E th) (hn : n ≤ 1024) (f : Nat → Nat) (w : World) (hb0 : But [blk] w0 w) (h : Rw blk n F E f w) (a m : Nat) (hab : a + 1 < m) (hb : m + 1 ≤ n) (hs1 : Srt kk a m f) (hst : Stb kk a m (m + 1) f) :
    Calls Ybaf.prog 33 #[.agg #[.func (.func 15) #[] #[l1, l2], .func (.func 31) #[] #[.slice (some ⟨blk, 0, none⟩) n c, th]], .int .i64 (a : Int), .int .i64 (m : Int), .int .i64 ((m + 1 : Nat) : Int)] w fun r w' => r = .returned (.tuple #[]) ∧ ∃ g, Rw blk n F E g w' ∧ Mix a (m + 1) f g ∧ Srt kk a (m + 1) g ∧ But [blk] w w' := by
  have hlt := h.lt
  have H0 : Hid (Rw blk n F E f (w.alloc (DO l1 l2 th blk n c))) := h.alloc _
  have HSW : Hid (SwOk blk n c F E th) := hsw
  have HLS : Hid (LsOk w0 blk n F E kk l1 l2) := hls
  have HB0 : Hid (But [blk] w0 (w.alloc (DO l1 l2 th blk n c))) := hb0.alloc _
  have HS1 : Hid (Srt kk a m f) := hs1
  have HST : Hid (Stb kk a m (m + 1) f) := hst
  obtain ⟨b, hbm⟩ : ∃ b, b = m + 1 := ⟨_, rfl⟩
  rw [← hbm]
  have e1 : IntKind.i64.wrap ((m : Int) - (a : Int)) = (m : Int) - (a : Int) := by rw [IntKind.wrap_i64]; omega
  have e0 : ¬ (m : Int) - (a : Int) = 1 := by omega
  have e0b : ((m : Int) - (a : Int) == 1) = false := by simpa using e0
  have e2 : IntKind.i64.wrap ((b : Int) - (m : Int)) = 1 := by rw [IntKind.wrap_i64]; omega
  have e2' : (b : Int) - (m : Int) = 1 := by omega
  clear h hsw hls hb0 hs1 hst
  have HM : Hid (b = m + 1) := hbm
  clear hbm
  go_enter Ybaf.func33, Ybaf.ntmps33
  go_wp2_with fail
  clear e1 e0 e0b e2 e2'
  go_loopg [12, 13] (m - a) (fun k s12 s13 wr => ∃ i j : Nat, a ≤ i ∧ i ≤ j ∧ j ≤ m ∧ k = j - i ∧ s12 = .int .i64 (i : Int) ∧ s13 = .int .i64 (j : Int) ∧ (∀ p, a ≤ p → p < i → R kk (f p) (f m)) ∧ (∀ p, j ≤ p → p < m → R kk (f m) (f p)) ∧ Rw blk n F E f wr ∧ But [blk] (w.alloc (DO l1 l2 th blk n c)) wr)
  case atStart => exact ⟨a, m, Nat.le_refl _, by omega, Nat.le_refl _, rfl, rfl, rfl, fun p p1 p2 => by omega, fun p p1 p2 => by omega, H0.out, But.refl _ _⟩
  case round =>
    obtain ⟨i, j, hmi, hij, hjb, rfl, rfl, rfl, hlo, hhi, hr, hbt⟩ := hrel
    have hb4 : wr.heap[w.heap.size]? = some (DO l1 l2 th blk n c) := by
      rw [hbt.block w.heap.size (by simp) (by simp; omega)]; exact blk_new w _
    have c0 : wr.cell? ⟨w.heap.size, 0, none⟩ = some (.func (.func 15) #[] #[l1, l2]) := by rw [blk_cell hb4]; rfl
    have HR : Hid (Rw blk n F E f wr) := hr
    have HB : Hid (But [blk] (w.alloc (DO l1 l2 th blk n c)) wr) := hbt
    have HLO : Hid _ := hlo
    have HHI : Hid _ := hhi
    clear hr hbt hb4 hlo hhi
    by_cases hlt2 : i < j
    · have hz : (i : Int) < (j : Int) := by omega
      obtain ⟨hv, hh⟩ : ∃ hv : Nat, (i + j) / 2 = hv := ⟨_, rfl⟩
      have hh' : ((i : Int) + (j : Int)) / 2 = (hv : Int) := by omega
      have HC : Hid (Calls Ybaf.prog 15 _ wr _) := HLS.out f wr (HB0.out.trans HB.out) HR.out m hv (by omega) (by omega)
      have h1 : i ≤ hv := by omega
      have h2 : hv < j := by omega
      clear hh
      go_wp2_with fail
      refine HC.out.mono ?_
      rintro r w' ⟨rfl, q, rfl⟩
      by_cases hle : kk (f m) < kk (f hv)
      · rw [decide_eq_true hle]
        have HHI' : Hid (∀ p, hv ≤ p → p < m → R kk (f m) (f p)) := fun p p1 p2 => by
          rcases Nat.lt_or_ge hv p with hp | hp
          · exact R.trans (Or.inl hle) (HS1.out hv p (by omega) hp p2)
          · rw [show p = hv from by omega]; exact Or.inl hle
        clear hle
        go_wp2
        go_roundg (hv - i)
        case measure => omega
        case rel => exact ⟨i, hv, hmi, h1, by omega, rfl, rfl, rfl, HLO.out, HHI'.out, HR.out, HB.out.drewN q⟩
      · rw [decide_eq_false hle]
        have HLO' : Hid (∀ p, a ≤ p → p < hv + 1 → R kk (f p) (f m)) := fun p p1 p2 => by
          have r1 := HST.out.no (show a ≤ hv by omega) (show hv < m by omega) (Nat.le_refl m) (by omega) hle
          rcases Nat.lt_or_ge p hv with hp | hp
          · exact (HS1.out p hv p1 hp (by omega)).trans r1
          · rw [show p = hv from by omega]; exact r1
        clear hle
        go_wp2
        go_roundg (j - (hv + 1))
        case measure => omega
        case rel => exact ⟨hv + 1, j, by omega, by omega, hjb, rfl, by go_num, rfl, HLO'.out, HHI.out, HR.out, HB.out.drewN q⟩
    · obtain rfl : i = j := by omega
      have hz : ¬ (i : Int) < (i : Int) := by omega
      go_wp2_with fail
      go_loopg [15] (m - i) (fun k s15 wy => ∃ t : Nat, i ≤ t ∧ t ≤ m ∧ k = t - i ∧ s15 = .int .i64 (t : Int) ∧ Rw blk n F E (ins f m t) wy ∧ Mix a (m + 1) f (ins f m t) ∧ But [blk] (w.alloc (DO l1 l2 th blk n c)) wy)
      case atStart => exact ⟨m, by omega, Nat.le_refl _, rfl, rfl, by rw [ins_self]; exact HR.out, by rw [ins_self]; exact Mix.refl _ _ _, HB.out⟩
      case round =>
        obtain ⟨t, hat, hti, rfl, rfl, hr, hmx, hbt⟩ := hrel
        have hb4 : wr.heap[w.heap.size]? = some (DO l1 l2 th blk n c) := by
          rw [hbt.block w.heap.size (by simp) (by simp; omega)]; exact blk_new w _
        have c1 : wr.cell? ⟨w.heap.size, 1, none⟩ = some (.func (.func 31) #[] #[.slice (some ⟨blk, 0, none⟩) n c, th]) := by rw [blk_cell hb4]; rfl
        have HR2 : Hid (Rw blk n F E (ins f m t) wr) := hr
        have HM2 : Hid (Mix a (m + 1) f (ins f m t)) := hmx
        have HB2 : Hid (But [blk] (w.alloc (DO l1 l2 th blk n c)) wr) := hbt
        clear hr hmx hbt hb4
        by_cases hti2 : i < t
        · have hz2 : (i : Int) < (t : Int) := by omega
          have e3 : IntKind.i64.wrap ((t : Int) - 1) = ((t - 1 : Nat) : Int) := by rw [IntKind.wrap_i64]; omega
          have e3' : (t : Int) - 1 = ((t - 1 : Nat) : Int) := by omega
          obtain ⟨w'', hrun, hr', hb'⟩ := HSW.out _ wr HR2.out t (t - 1) (by omega) (by omega)
          rw [ins_step f (by omega) hti] at hr'
          have HR' : Hid (Rw blk n F E (ins f m (t - 1)) w'') := hr'
          have HB' : Hid (But [blk] wr w'') := hb'
          have HM' : Hid (Mix a (m + 1) f (ins f m (t - 1))) := by rw [← ins_step f (by omega) hti]; exact HM2.out.trans (Mix.swp _ (by omega) (by omega) (by omega) (by omega))
          clear hr' hb'
          go_wp2
          go_roundg (t - 1 - i)
          case measure => omega
          case rel => exact ⟨t - 1, by omega, by omega, rfl, rfl, HR'.out, HM'.out, HB2.out.trans HB'.out⟩
        · obtain rfl : t = i := by omega
          have hz2 : ¬ (t : Int) < (t : Int) := by omega
          have HX : Hid (Srt kk a (m + 1) (ins f m t)) := ins_sorted HS1.out (by omega) hti (fun p p1 p2 => HHI.out p (by omega) p2) (fun p p1 p2 => HLO.out p p1 p2)
          go_wp2
          first | go_end0 | ((try simp only [Exit.inBlock, Exit.then]); refine bodyPost_ret (results_none rfl _ _ _) rfl ?_)
          obtain rfl := HM.out
          exact ⟨rfl, _, HR2.out, HM2.out, HX.out, ((But.refl _ w).alloc _).trans HB2.out⟩
end Go.Proofs.YbulkerqFmt
