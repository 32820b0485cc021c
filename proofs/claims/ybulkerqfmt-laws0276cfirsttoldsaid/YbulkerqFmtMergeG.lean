/-
  symMerge_func, walked: the general case.
-/
import Derived.Test.YbulkerqFmtMerge
import Derived.Deep.Cut
import Derived.Deep.CutRange
namespace Go.Proofs.YbulkerqFmt
open Go.RowKit Go.Lib

theorem rot_id (f : Nat → Nat) {s m e : Nat} (h : s = m ∨ e = m) (h1 : s ≤ m) (h2 : m ≤ e) : rot f s m e = f := by
  funext p
  simp only [rot]
  by_cases c1 : s ≤ p ∧ p < s + (e - m)
  · rw [if_pos c1]; congr 1; omega
  · rw [if_neg c1]
    by_cases c2 : s + (e - m) ≤ p ∧ p < e
    · rw [if_pos c2]; congr 1; omega
    · rw [if_neg c2]

/-- What symMerge does to ranges shorter than N. -/
def MgOk (w0 : World) (blk n c : Nat) (F E : Nat → Value) (kk : Nat → Nat) (l1 l2 th : Value) (N : Nat) : Prop :=
  ∀ (f : Nat → Nat) (w : World) (a m b : Nat), b - a < N → But [blk] w0 w → Rw blk n F E f w → a < m → m < b → b ≤ n → Srt kk a m f → Srt kk m b f → Stb kk a m b f →
    Calls Ybaf.prog 33 #[.agg #[.func (.func 15) #[] #[l1, l2], .func (.func 31) #[] #[.slice (some ⟨blk, 0, none⟩) n c, th]], .int .i64 (a : Int), .int .i64 (m : Int), .int .i64 (b : Int)] w fun r w' => r = .returned (.tuple #[]) ∧ ∃ g, Rw blk n F E g w' ∧ Mix a b f g ∧ Srt kk a b g ∧ But [blk] w w'

set_option maxRecDepth 100000 in
set_option maxHeartbeats 2000000 in
theorem merge_gen {w0 : World} {blk n c : Nat} {F E : Nat → Value} {kk : Nat → Nat} {l1 l2 th : Value} (hls : LsOk w0 blk n F E kk l1 l2) (hsw : SwOk blk n c F E th) (hn : n ≤ 1024) (N : Nat) (ih : MgOk w0 blk n c F E kk l1 l2 th N) (f : Nat → Nat) (w : World) (hb0 : But [blk] w0 w) (h : Rw blk n F E f w) (a m b : Nat) (hN : b - a ≤ N) (ham : a + 1 < m) (hmb : m + 1 < b) (hb : b ≤ n) (hs1 : Srt kk a m f) (hs2 : Srt kk m b f) (hst : Stb kk a m b f) :
    Calls Ybaf.prog 33 #[.agg #[.func (.func 15) #[] #[l1, l2], .func (.func 31) #[] #[.slice (some ⟨blk, 0, none⟩) n c, th]], .int .i64 (a : Int), .int .i64 (m : Int), .int .i64 (b : Int)] w fun r w' => r = .returned (.tuple #[]) ∧ ∃ g, Rw blk n F E g w' ∧ Mix a b f g ∧ Srt kk a b g ∧ But [blk] w w' := by
  have hlt := h.lt
  have H0 : Hid (Rw blk n F E f (w.alloc (DO l1 l2 th blk n c))) := h.alloc _
  have HSW : Hid (SwOk blk n c F E th) := hsw
  have HLS : Hid (LsOk w0 blk n F E kk l1 l2) := hls
  have HIH : Hid (MgOk w0 blk n c F E kk l1 l2 th N) := ih
  have HB0 : Hid (But [blk] w0 (w.alloc (DO l1 l2 th blk n c))) := hb0.alloc _
  have HS1 : Hid (Srt kk a m f) := hs1
  have HS2 : Hid (Srt kk m b f) := hs2
  have HST : Hid (Stb kk a m b f) := hst
  obtain ⟨mid, hmid⟩ : ∃ mid, (a + b) / 2 = mid := ⟨_, rfl⟩
  have e1 : IntKind.i64.wrap ((m : Int) - (a : Int)) = (m : Int) - (a : Int) := by rw [IntKind.wrap_i64]; omega
  have e0 : ¬ (m : Int) - (a : Int) = 1 := by omega
  have e0b : ((m : Int) - (a : Int) == 1) = false := by simpa using e0
  have e2 : IntKind.i64.wrap ((b : Int) - (m : Int)) = (b : Int) - (m : Int) := by rw [IntKind.wrap_i64]; omega
  have e3 : ¬ (b : Int) - (m : Int) = 1 := by omega
  have e3b : ((b : Int) - (m : Int) == 1) = false := by simpa using e3
  have e4 : ((a : Int) + (b : Int)) / 2 = (mid : Int) := by omega
  clear h hsw hls hb0 hs1 hs2 hst ih
  go_enter Ybaf.func33, Ybaf.ntmps33
  go_upto_if 106 with fail
  go_cut [18, 19] from 104 to 112 (fun s18 s19 wx => ∃ l0 h0 : Nat, s18 = .int .i64 (l0 : Int) ∧ s19 = .int .i64 (h0 : Int) ∧ ((mid < m ∧ l0 = mid + m - b ∧ h0 = mid) ∨ (m ≤ mid ∧ l0 = a ∧ h0 = m)) ∧ wx = w.alloc (DO l1 l2 th blk n c))
  case first =>
    by_cases hmm : mid < m
    · have z : (mid : Int) < (m : Int) := by omega
      have e5 : IntKind.i64.wrap ((mid : Int) + (m : Int) - (b : Int)) = ((mid + m - b : Nat) : Int) := by rw [IntKind.wrap_i64]; omega
      have e5' : (mid : Int) + (m : Int) - (b : Int) = ((mid + m - b : Nat) : Int) := by omega
      go_wp2_with fail
      go_meet
      case rel => exact ⟨mid + m - b, mid, rfl, rfl, Or.inl ⟨hmm, rfl, rfl⟩, rfl⟩
    · have z : ¬ (mid : Int) < (m : Int) := by omega
      go_wp2_with fail
      go_meet
      case rel => exact ⟨a, m, rfl, rfl, Or.inr ⟨by omega, rfl, rfl⟩, rfl⟩
  case rest =>
    obtain ⟨l0, h0, rfl, rfl, hcas, rfl⟩ := hcut
    clear e1 e0 e0b e2 e3 e3b e4
    have HCA : Hid _ := hcas
    have hl0 : l0 ≤ h0 := by omega
    have hh0 : h0 ≤ m := by omega
    have hh1 : h0 ≤ mid := by omega
    have hla : a ≤ l0 := by omega
    have hlb : mid + m - 1 - l0 < b := by omega
    clear hcas
    go_wp2_with fail
    go_loopg [18, 19] (h0 - l0) (fun k s18 s19 wr => ∃ s r : Nat, l0 ≤ s ∧ s ≤ r ∧ r ≤ h0 ∧ k = r - s ∧ s18 = .int .i64 (s : Int) ∧ s19 = .int .i64 (r : Int) ∧ (∀ c, l0 ≤ c → c < s → R kk (f c) (f (mid + m - 1 - c))) ∧ (∀ c, r ≤ c → c < h0 → R kk (f (mid + m - 1 - c)) (f c)) ∧ Rw blk n F E f wr ∧ But [blk] (w.alloc (DO l1 l2 th blk n c)) wr)
    case atStart => exact ⟨l0, h0, Nat.le_refl _, hl0, Nat.le_refl _, rfl, rfl, rfl, fun c c1 c2 => by omega, fun c c1 c2 => by omega, H0.out, But.refl _ _⟩
    case round =>
      obtain ⟨s, r, hls, hsr, hrh, rfl, rfl, rfl, hlo, hhi, hr, hbt⟩ := hrel
      have hb4 : wr.heap[w.heap.size]? = some (DO l1 l2 th blk n c) := by
        rw [hbt.block w.heap.size (by simp) (by simp; omega)]; exact blk_new w _
      have c0 : wr.cell? ⟨w.heap.size, 0, none⟩ = some (.func (.func 15) #[] #[l1, l2]) := by rw [blk_cell hb4]; rfl
      have c1 : wr.cell? ⟨w.heap.size, 1, none⟩ = some (.func (.func 31) #[] #[.slice (some ⟨blk, 0, none⟩) n c, th]) := by rw [blk_cell hb4]; rfl
      have HR : Hid (Rw blk n F E f wr) := hr
      have HB : Hid (But [blk] (w.alloc (DO l1 l2 th blk n c)) wr) := hbt
      have HLO : Hid _ := hlo
      have HHI : Hid _ := hhi
      clear hr hbt hb4 hlo hhi
      by_cases hlt2 : s < r
      · have hz : (s : Int) < (r : Int) := by omega
        obtain ⟨hv, hh⟩ : ∃ hv : Nat, (s + r) / 2 = hv := ⟨_, rfl⟩
        have hh' : ((s : Int) + (r : Int)) / 2 = (hv : Int) := by omega
        have h1 : s ≤ hv := by omega
        have h2 : hv < r := by omega
        clear hh
        have e6 : IntKind.i64.wrap ((mid : Int) + (m : Int) - 1 - (hv : Int)) = ((mid + m - 1 - hv : Nat) : Int) := by rw [IntKind.wrap_i64]; omega
        have e6' : (mid : Int) + (m : Int) - 1 - (hv : Int) = ((mid + m - 1 - hv : Nat) : Int) := by omega
        have HC : Hid (Calls Ybaf.prog 15 _ wr _) := HLS.out f wr (HB0.out.trans HB.out) HR.out (mid + m - 1 - hv) hv (by omega) (by omega)
        go_wp2_with fail
        refine HC.out.mono ?_
        rintro rr w' ⟨rfl, q, rfl⟩
        by_cases hle : kk (f (mid + m - 1 - hv)) < kk (f hv)
        · rw [decide_eq_true hle]
          have HHI' : Hid (∀ c, hv ≤ c → c < h0 → R kk (f (mid + m - 1 - c)) (f c)) := fun c c1 c2 => by
            rcases Nat.lt_or_ge hv c with hp | hp
            · exact ((HS2.out (mid + m - 1 - c) (mid + m - 1 - hv) (by omega) (by omega) (by omega)).trans (Or.inl hle)).trans (HS1.out hv c (by omega) hp (by omega))
            · rw [show c = hv from by omega]; exact Or.inl hle
          clear hle
          go_wp2
          go_roundg (hv - s)
          case measure => omega
          case rel => exact ⟨s, hv, hls, h1, by omega, rfl, rfl, rfl, HLO.out, HHI'.out, HR.out, HB.out.drewN q⟩
        · rw [decide_eq_false hle]
          have HLO' : Hid (∀ c, l0 ≤ c → c < hv + 1 → R kk (f c) (f (mid + m - 1 - c))) := fun c c1 c2 => by
            have r1 := HST.out.no (show a ≤ hv by omega) (show hv < m by omega) (show m ≤ mid + m - 1 - hv by omega) (by omega) hle
            rcases Nat.lt_or_ge c hv with hp | hp
            · exact ((HS1.out c hv (by omega) hp (by omega)).trans r1).trans (HS2.out (mid + m - 1 - hv) (mid + m - 1 - c) (by omega) (by omega) (by omega))
            · rw [show c = hv from by omega]; exact r1
          clear hle
          go_wp2
          go_roundg (r - (hv + 1))
          case measure => omega
          case rel => exact ⟨hv + 1, r, by omega, by omega, hrh, rfl, by go_num, rfl, HLO'.out, HHI.out, HR.out, HB.out.drewN q⟩
      · obtain rfl : s = r := by omega
        have hz : ¬ (s : Int) < (s : Int) := by omega
        have hcut : Cut kk a m b mid l0 h0 s f := ⟨by omega, by omega, hmid.symm, HCA.out, hls, hrh, HLO.out, HHI.out⟩
        obtain ⟨e, he⟩ : ∃ e, mid + m - s = e := ⟨_, rfl⟩
        have h4 := four_of hcut HS1.out HS2.out HST.out
        rw [he] at h4
        obtain ⟨b1, b2, b3, b4, s1, s2, s3, s4, hx, t1, t2⟩ := h4
        have e7 : IntKind.i64.wrap ((mid : Int) + (m : Int) - (s : Int)) = (e : Int) := by rw [IntKind.wrap_i64]; omega
        have e7' : (mid : Int) + (m : Int) - (s : Int) = (e : Int) := by omega
        have hsm : s ≤ m := by omega
        have hme : m ≤ e := by omega
        have D1 : Hid (Srt kk a s (rot f s m e)) := s1
        have D2 : Hid (Srt kk s mid (rot f s m e)) := s2
        have D3 : Hid (Srt kk mid e (rot f s m e)) := s3
        have D4 : Hid (Srt kk e b (rot f s m e)) := s4
        have DX : Hid (∀ p q, a ≤ p → p < mid → mid ≤ q → q < b → R kk (rot f s m e p) (rot f s m e q)) := hx
        have DT1 : Hid (Stb kk a s mid (rot f s m e)) := t1
        have DT2 : Hid (Stb kk mid e b (rot f s m e)) := t2
        clear hcut s1 s2 s3 s4 hx t1 t2 HLO HHI
        go_upto_region 40 with fail
        go_cut [145] from 138 to 144 (fun sv wx => sv = .bool (decide (s < m ∧ m < e)) ∧ wx = wr)
        case first =>
          by_cases g1 : s < m
          · have g1' : (s : Int) < (m : Int) := by omega
            by_cases g2 : m < e
            · have g2' : (m : Int) < (e : Int) := by omega
              go_wp2_with fail
              go_meet
              case rel => exact ⟨by rw [decide_eq_true ⟨g1, g2⟩], rfl⟩
            · have g2' : ¬ (m : Int) < (e : Int) := by omega
              go_wp2_with fail
              go_meet
              case rel => exact ⟨by rw [decide_eq_false (fun h => g2 h.2)], rfl⟩
          · have g1' : ¬ (s : Int) < (m : Int) := by omega
            go_wp2_with fail
            go_meet
            case rel => exact ⟨by rw [decide_eq_false (fun h => g1 h.1)], rfl⟩
        case rest =>
        obtain ⟨rfl, rfl⟩ := hcut
        go_upto_if 145 with fail
        go_cut [] from 138 to 150 (fun wx => Rw blk n F E (rot f s m e) wx ∧ But [blk] (w.alloc (DO l1 l2 th blk n c)) wx)
        case first =>
          by_cases hro : s < m ∧ m < e
          · rw [decide_eq_true hro]
            go_wp2_with fail
            refine (rotate_any HSW.out hn f wc HR.out s m e hro.1 hro.2 (by omega)).mono ?_
            rintro rr w' ⟨rfl, hr', hb'⟩
            have HR' : Hid (Rw blk n F E (rot f s m e) w') := hr'
            have HB' : Hid (But [blk] wc w') := hb'
            clear hr' hb'
            go_wp2_with fail
            go_meet
            case rel => exact ⟨HR'.out, HB.out.trans HB'.out⟩
          · rw [decide_eq_false hro]
            go_wp2_with fail
            go_meet
            case rel => exact ⟨by rw [rot_id f (by omega) hsm hme]; exact HR.out, HB.out⟩
        case rest =>
        clear c0 c1 HR HB
        obtain ⟨hr, hbt⟩ := hcut
        have hb4 : wc.heap[w.heap.size]? = some (DO l1 l2 th blk n c) := by
          rw [hbt.block w.heap.size (by simp) (by simp; omega)]; exact blk_new w _
        have c0 : wc.cell? ⟨w.heap.size, 0, none⟩ = some (.func (.func 15) #[] #[l1, l2]) := by rw [blk_cell hb4]; rfl
        have c1 : wc.cell? ⟨w.heap.size, 1, none⟩ = some (.func (.func 31) #[] #[.slice (some ⟨blk, 0, none⟩) n c, th]) := by rw [blk_cell hb4]; rfl
        have HR : Hid (Rw blk n F E (rot f s m e) wc) := hr
        have HB : Hid (But [blk] (w.alloc (DO l1 l2 th blk n c)) wc) := hbt
        clear hr hbt hb4 e7 e7'
        go_upto_region 42 with fail
        go_cut [158] from 151 to 157 (fun sv wx => sv = .bool (decide (a < s ∧ s < mid)) ∧ wx = wc)
        case first =>
          by_cases g1 : a < s
          · have g1' : (a : Int) < (s : Int) := by omega
            by_cases g2 : s < mid
            · have g2' : (s : Int) < (mid : Int) := by omega
              go_wp2_with fail
              go_meet
              case rel => exact ⟨by rw [decide_eq_true ⟨g1, g2⟩], rfl⟩
            · have g2' : ¬ (s : Int) < (mid : Int) := by omega
              go_wp2_with fail
              go_meet
              case rel => exact ⟨by rw [decide_eq_false (fun h => g2 h.2)], rfl⟩
          · have g1' : ¬ (a : Int) < (s : Int) := by omega
            go_wp2_with fail
            go_meet
            case rel => exact ⟨by rw [decide_eq_false (fun h => g1 h.1)], rfl⟩
        case rest =>
        obtain ⟨rfl, rfl⟩ := hcut
        go_upto_if 158 with fail
        go_cut [] from 151 to 163 (fun wx => ∃ g1, Rw blk n F E g1 wx ∧ Mix a mid (rot f s m e) g1 ∧ Srt kk a mid g1 ∧ But [blk] (w.alloc (DO l1 l2 th blk n c)) wx)
        case first =>
          by_cases hro : a < s ∧ s < mid
          · rw [decide_eq_true hro]
            go_wp2_with fail
            refine (HIH.out (rot f s m e) wc a s mid (by omega) (HB0.out.trans HB.out) HR.out hro.1 hro.2 (by omega) D1.out D2.out DT1.out).mono ?_
            rintro rr w' ⟨rfl, g1, hr', hm', hs', hb'⟩
            have HX : Hid (Rw blk n F E g1 w' ∧ Mix a mid (rot f s m e) g1 ∧ Srt kk a mid g1 ∧ But [blk] wc w') := ⟨hr', hm', hs', hb'⟩
            clear hr' hm' hs' hb'
            go_wp2_with fail
            go_meet
            case rel => exact ⟨g1, HX.out.1, HX.out.2.1, HX.out.2.2.1, HB.out.trans HX.out.2.2.2⟩
          · rw [decide_eq_false hro]
            go_wp2_with fail
            go_meet
            case rel =>
              refine ⟨_, HR.out, Mix.refl _ _ _, ?_, HB.out⟩
              rcases (show s = a ∨ s = mid by omega) with e | e
              · have := D2.out; rw [e] at this ⊢; exact this
              · have := D1.out; rw [e] at this ⊢; exact this
        case rest =>
        clear c0 c1 HR HB
        obtain ⟨g1, hr, hm1, hss, hbt⟩ := hcut
        have hb4 : wc.heap[w.heap.size]? = some (DO l1 l2 th blk n c) := by
          rw [hbt.block w.heap.size (by simp) (by simp; omega)]; exact blk_new w _
        have c0 : wc.cell? ⟨w.heap.size, 0, none⟩ = some (.func (.func 15) #[] #[l1, l2]) := by rw [blk_cell hb4]; rfl
        have c1 : wc.cell? ⟨w.heap.size, 1, none⟩ = some (.func (.func 31) #[] #[.slice (some ⟨blk, 0, none⟩) n c, th]) := by rw [blk_cell hb4]; rfl
        have HR : Hid (Rw blk n F E g1 wc) := hr
        have HB : Hid (But [blk] (w.alloc (DO l1 l2 th blk n c)) wc) := hbt
        have HM1 : Hid (Mix a mid (rot f s m e) g1) := hm1
        have HSS : Hid (Srt kk a mid g1) := hss
        have HMR : Hid (Mix a b f (rot f s m e)) := (rot_mix f hsm hme).mono b1 b4
        clear hr hbt hb4 hm1 hss
        go_upto_region 44 with fail
        go_cut [171] from 164 to 170 (fun sv wx => sv = .bool (decide (mid < e ∧ e < b)) ∧ wx = wc)
        case first =>
          by_cases g1 : mid < e
          · have g1' : (mid : Int) < (e : Int) := by omega
            by_cases g2 : e < b
            · have g2' : (e : Int) < (b : Int) := by omega
              go_wp2_with fail
              go_meet
              case rel => exact ⟨by rw [decide_eq_true ⟨g1, g2⟩], rfl⟩
            · have g2' : ¬ (e : Int) < (b : Int) := by omega
              go_wp2_with fail
              go_meet
              case rel => exact ⟨by rw [decide_eq_false (fun h => g2 h.2)], rfl⟩
          · have g1' : ¬ (mid : Int) < (e : Int) := by omega
            go_wp2_with fail
            go_meet
            case rel => exact ⟨by rw [decide_eq_false (fun h => g1 h.1)], rfl⟩
        case rest =>
        obtain ⟨rfl, rfl⟩ := hcut
        by_cases hro : mid < e ∧ e < b
        · rw [decide_eq_true hro]
          have k3 : Srt kk mid e g1 := D3.out.congr fun p p1 p2 => HM1.out.out p (by omega)
          have k4 : Srt kk e b g1 := D4.out.congr fun p p1 p2 => HM1.out.out p (by omega)
          have k5 : Stb kk mid e b g1 := fun p q p1 p2 q1 q2 eq => by
            rw [HM1.out.out p (by omega), HM1.out.out q (by omega)] at eq ⊢
            exact DT2.out p q p1 p2 q1 q2 eq
          have HCL : Hid (Calls Ybaf.prog 33 _ wc _) := HIH.out g1 wc mid e b (by omega) (HB0.out.trans HB.out) HR.out hro.1 hro.2 hb k3 k4 k5
          clear k3 k4 k5
          go_wp2_with fail
          refine HCL.out.mono ?_
          rintro rr w' ⟨rfl, g2, hr', hm', hs', hb'⟩
          have HX : Hid (Rw blk n F E g2 w' ∧ Mix mid b g1 g2 ∧ Srt kk mid b g2 ∧ But [blk] wc w') := ⟨hr', hm', hs', hb'⟩
          clear hr' hm' hs' hb'
          go_wp2
          go_end0
          exact ⟨rfl, g2, HX.out.1, (HMR.out.trans (HM1.out.mono (Nat.le_refl _) (by omega))).trans (HX.out.2.1.mono (by omega) (Nat.le_refl _)), halves DX.out HM1.out HX.out.2.1 HSS.out HX.out.2.2.1, (((But.refl _ w).alloc _).trans HB.out).trans HX.out.2.2.2⟩
        · rw [decide_eq_false hro]
          have HX : Hid (Srt kk mid b g1) := by
            rcases (show e = mid ∨ e = b by omega) with e' | e'
            · have := D4.out.congr (g := g1) fun p p1 p2 => HM1.out.out p (by omega)
              rw [e'] at this; exact this
            · have := D3.out.congr (g := g1) fun p p1 p2 => HM1.out.out p (by omega)
              rw [e'] at this; exact this
          go_wp2
          go_end0
          exact ⟨rfl, g1, HR.out, HMR.out.trans (HM1.out.mono (Nat.le_refl _) (by omega)), halves DX.out HM1.out (Mix.refl _ _ _) HSS.out HX.out, ((But.refl _ w).alloc _).trans HB.out⟩

/-- symMerge, whatever the range. -/
theorem merge_any {w0 : World} {blk n c : Nat} {F E : Nat → Value} {kk : Nat → Nat} {l1 l2 th : Value} (hls : LsOk w0 blk n F E kk l1 l2) (hsw : SwOk blk n c F E th) (hn : n ≤ 1024) : ∀ N, MgOk w0 blk n c F E kk l1 l2 th N := by
  intro N
  induction N with
  | zero => intro f w a m b h; omega
  | succ N ih =>
    intro f w a m b hN hb0 h ham hmb hb hs1 hs2 hst
    by_cases h1 : m = a + 1
    · subst h1
      exact merge_left hls hsw hn f w hb0 h a b hmb hb hs2 hst
    · by_cases h2 : b = m + 1
      · subst h2
        exact merge_right hls hsw hn f w hb0 h a m (by omega) hb hs1 hst
      · exact merge_gen hls hsw hn N ih f w hb0 h a m b (by omega) (by omega) (by omega) hb hs1 hs2 hst
end Go.Proofs.YbulkerqFmt
