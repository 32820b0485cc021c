/-
  stable_func, walked.
-/
import Derived.Test.YbulkerqFmtMergeG
namespace Go.Proofs.YbulkerqFmt
open Go.RowKit Go.Lib

/-- Below a the blocks of size s2, from a on those of size s1: each holds its own numbers, sorted. -/
structure Bl (kk : Nat → Nat) (n a s2 s1 : Nat) (g : Nat → Nat) : Prop where
  own2 : ∀ p, p < a → p < n → g p / s2 = p / s2
  own1 : ∀ p, a ≤ p → p < n → g p / s1 = p / s1
  srt2 : ∀ p q, p < q → q < a → q < n → p / s2 = q / s2 → R kk (g p) (g q)
  srt1 : ∀ p q, a ≤ p → p < q → q < n → p / s1 = q / s1 → R kk (g p) (g q)

/-- The sizes that come up. -/
def Sz (bs : Nat) : Prop := bs = 20 ∨ bs = 40 ∨ bs = 80 ∨ bs = 160 ∨ bs = 320 ∨ bs = 640

theorem Bl.first (kk : Nat → Nat) (n : Nat) (f : Nat → Nat) (hf : ∀ p, p < n → f p = p) : Bl kk n 0 20 1 f :=
  ⟨fun p h _ => by omega, fun p _ h => by rw [hf p h], fun p q h1 h2 => by omega, fun p q _ h1 h2 h3 => by omega⟩
/-- A block sorted by insertion. -/
theorem Bl.ins {kk : Nat → Nat} {n t b : Nat} {g g' : Nat → Nat} (h : Bl kk n (20 * t) 20 1 g) (hb : b ≤ 20 * t + 20) (hbn : b = 20 * t + 20 ∨ b = n) (hbl : b ≤ n) (hm : Mix (20 * t) b g g') (hs : Srt kk (20 * t) b g') : Bl kk n (20 * (t + 1)) 20 1 g' := by
  obtain ⟨o2, o1, r2, r1⟩ := h
  have hin : ∀ p, 20 * t ≤ p → p < b → p < n → g' p / 20 = t := fun p p1 p2 p3 => by
    obtain ⟨q, q1, q2, e⟩ := hm.into p p1 p2
    rcases Nat.lt_or_ge q n with hq | hq
    · have := o1 q q1 hq
      rw [e]; omega
    · omega
  refine ⟨fun p p1 p2 => ?_, fun p p1 p2 => ?_, fun p q p1 q1 q2 e => ?_, fun p q p1 pq q1 e => by omega⟩
  · rcases Nat.lt_or_ge p (20 * t) with h1 | h1
    · rw [hm.out p (Or.inl h1)]; exact o2 p h1 p2
    · have := hin p h1 (by omega) p2
      omega
  · rw [hm.out p (by omega)]; exact o1 p (by omega) p2
  · rcases Nat.lt_or_ge q (20 * t) with h1 | h1
    · rw [hm.out p (by omega), hm.out q (Or.inl h1)]; exact r2 p q p1 h1 q2 e
    · exact hs p q (by omega) p1 (by omega)
theorem Bl.again {kk : Nat → Nat} {n a s2 s1 s3 : Nat} {g : Nat → Nat} (h : Bl kk n a s2 s1 g) (ha : n ≤ a) : Bl kk n 0 s3 s2 g :=
  ⟨fun p h1 => by omega, fun p _ h2 => h.own2 p (by omega) h2, fun p q h1 h2 => by omega, fun p q _ h1 h2 e => h.srt2 p q h1 (by omega) h2 e⟩
theorem Bl.end {kk : Nat → Nat} {n s3 bs : Nat} {g : Nat → Nat} (h : Bl kk n 0 s3 bs g) (hb : n ≤ bs) : Srt kk 0 n g := fun p q _ pq hq =>
  h.srt1 p q (Nat.zero_le _) pq hq (by rw [Nat.div_eq_of_lt (by omega), Nat.div_eq_of_lt (by omega)])
/-- Two blocks merged. -/
theorem Bl.merge {kk : Nat → Nat} {n t b bs : Nat} {g g' : Nat → Nat} (hz : Sz bs) (h : Bl kk n (2 * bs * t) (2 * bs) bs g) (hb : b ≤ 2 * bs * t + 2 * bs) (hbn : b = 2 * bs * t + 2 * bs ∨ b = n) (hbl : b ≤ n) (hm : Mix (2 * bs * t) b g g') (hs : Srt kk (2 * bs * t) b g') : Bl kk n (2 * bs * (t + 1)) (2 * bs) bs g' := by
  obtain ⟨o2, o1, r2, r1⟩ := h
  have hin : ∀ p, 2 * bs * t ≤ p → p < b → p < n → g' p / (2 * bs) = t := fun p p1 p2 p3 => by
    obtain ⟨q, q1, q2, e⟩ := hm.into p p1 p2
    rcases Nat.lt_or_ge q n with hq | hq
    · have := o1 q q1 hq
      rw [e]
      rcases hz with rfl | rfl | rfl | rfl | rfl | rfl <;> omega
    · omega
  refine ⟨fun p p1 p2 => ?_, fun p p1 p2 => ?_, fun p q p1 q1 q2 e => ?_, fun p q p1 pq q1 e => ?_⟩
  · rcases Nat.lt_or_ge p (2 * bs * t) with h1 | h1
    · rw [hm.out p (Or.inl h1)]; exact o2 p h1 p2
    · have := hin p h1 (by rcases hz with rfl | rfl | rfl | rfl | rfl | rfl <;> omega) p2
      rcases hz with rfl | rfl | rfl | rfl | rfl | rfl <;> omega
  · rw [hm.out p (by rcases hz with rfl | rfl | rfl | rfl | rfl | rfl <;> omega)]
    exact o1 p (by rcases hz with rfl | rfl | rfl | rfl | rfl | rfl <;> omega) p2
  · rcases Nat.lt_or_ge q (2 * bs * t) with h1 | h1
    · rw [hm.out p (by omega), hm.out q (Or.inl h1)]; exact r2 p q p1 h1 q2 e
    · exact hs p q (by rcases hz with rfl | rfl | rfl | rfl | rfl | rfl <;> omega) p1 (by rcases hz with rfl | rfl | rfl | rfl | rfl | rfl <;> omega)
  · rw [hm.out p (by rcases hz with rfl | rfl | rfl | rfl | rfl | rfl <;> omega), hm.out q (by rcases hz with rfl | rfl | rfl | rfl | rfl | rfl <;> omega)]
    exact r1 p q (by rcases hz with rfl | rfl | rfl | rfl | rfl | rfl <;> omega) pq q1 e

/-- The stability that a merge of two blocks wants. -/
theorem Bl.stb {kk : Nat → Nat} {n t bs : Nat} {g : Nat → Nat} (hz : Sz bs) (h : Bl kk n (2 * bs * t) (2 * bs) bs g) : Srt kk (2 * bs * t) (2 * bs * t + bs) g ∨ n < 2 * bs * t + bs := by
  by_cases hn : 2 * bs * t + bs ≤ n
  · left
    intro p q p1 pq q1
    exact h.srt1 p q p1 pq (by omega) (by rcases hz with rfl | rfl | rfl | rfl | rfl | rfl <;> omega)
  · right; omega
theorem Bl.right {kk : Nat → Nat} {n t b bs : Nat} {g : Nat → Nat} (hz : Sz bs) (h : Bl kk n (2 * bs * t) (2 * bs) bs g) (hb : b ≤ 2 * bs * t + 2 * bs) (hbl : b ≤ n) : Srt kk (2 * bs * t + bs) b g ∧ Stb kk (2 * bs * t) (2 * bs * t + bs) b g := by
  refine ⟨fun p q p1 pq q1 => h.srt1 p q (by omega) pq (by omega) (by rcases hz with rfl | rfl | rfl | rfl | rfl | rfl <;> omega), fun p q p1 p2 q1 q2 e => ?_⟩
  have a1 := h.own1 p p1 (by omega)
  have a2 := h.own1 q (by omega) (by omega)
  rcases hz with rfl | rfl | rfl | rfl | rfl | rfl <;> omega

set_option maxRecDepth 100000 in
set_option maxHeartbeats 2000000 in
theorem stable_any {w0 : World} {blk n c : Nat} {F E : Nat → Value} {kk : Nat → Nat} {l1 l2 th : Value} (hls : LsOk w0 blk n F E kk l1 l2) (hsw : SwOk blk n c F E th) (hn : n ≤ 1024) (f : Nat → Nat) (w : World) (hb0 : But [blk] w0 w) (h : Rw blk n F E f w) (hf : ∀ p, p < n → f p = p) :
    Calls Ybaf.prog 20 #[.agg #[.func (.func 15) #[] #[l1, l2], .func (.func 31) #[] #[.slice (some ⟨blk, 0, none⟩) n c, th]], .int .i64 (n : Int)] w fun r w' => r = .returned (.tuple #[]) ∧ ∃ g, Rw blk n F E g w' ∧ Mix 0 n f g ∧ Srt kk 0 n g ∧ But [blk] w w' := by
  have hlt := h.lt
  have H0 : Hid (Rw blk n F E f (w.alloc (DO l1 l2 th blk n c))) := h.alloc _
  have HSW : Hid (SwOk blk n c F E th) := hsw
  have HLS : Hid (LsOk w0 blk n F E kk l1 l2) := hls
  have HB0 : Hid (But [blk] w0 (w.alloc (DO l1 l2 th blk n c))) := hb0.alloc _
  have HF : Hid (∀ p, p < n → f p = p) := hf
  clear h hsw hls hb0 hf
  go_enter Ybaf.func20, Ybaf.ntmps20
  go_wp2_with fail
  go_loopg [5, 6] n (fun k s5 s6 wr => ∃ (t : Nat) (g : Nat → Nat), 20 * t ≤ n ∧ k = n - 20 * t ∧ s5 = .int .i64 ((20 * t : Nat) : Int) ∧ s6 = .int .i64 ((20 * t + 20 : Nat) : Int) ∧ Bl kk n (20 * t) 20 1 g ∧ Rw blk n F E g wr ∧ Mix 0 n f g ∧ But [blk] (w.alloc (DO l1 l2 th blk n c)) wr)
  case atStart => exact ⟨0, f, Nat.zero_le _, rfl, rfl, rfl, Bl.first kk n f HF.out, H0.out, Mix.refl _ _ _, But.refl _ _⟩
  case round =>
    obtain ⟨t, g, htn, rfl, rfl, rfl, hbl, hr, hmx, hbt⟩ := hrel
    have hb4 : wr.heap[w.heap.size]? = some (DO l1 l2 th blk n c) := by
      rw [hbt.block w.heap.size (by simp) (by simp; omega)]; exact blk_new w _
    have c0 : wr.cell? ⟨w.heap.size, 0, none⟩ = some (.func (.func 15) #[] #[l1, l2]) := by rw [blk_cell hb4]; rfl
    have c1 : wr.cell? ⟨w.heap.size, 1, none⟩ = some (.func (.func 31) #[] #[.slice (some ⟨blk, 0, none⟩) n c, th]) := by rw [blk_cell hb4]; rfl
    have HL : Hid (Bl kk n (20 * t) 20 1 g) := hbl
    have HR : Hid (Rw blk n F E g wr) := hr
    have HM : Hid (Mix 0 n f g) := hmx
    have HB : Hid (But [blk] (w.alloc (DO l1 l2 th blk n c)) wr) := hbt
    have HINC : Hid (∀ b, b ≤ n → ∀ p q, 20 * t ≤ p → p < q → q < b → g p < g q) := fun b hb p q p1 pq q1 => by
      have a1 := HL.out.own1 p p1 (by omega)
      have a2 := HL.out.own1 q (by omega) (by omega)
      simp only [Nat.div_one] at a1 a2
      omega
    clear hbl hr hmx hbt hb4
    by_cases hlt2 : 20 * t + 20 ≤ n
    · have hz : ((20 * t + 20 : Nat) : Int) ≤ (n : Int) := by omega
      have hc := insertion_any HLS.out HSW.out hn g wr (HB0.out.trans HB.out) HR.out (20 * t) (20 * t + 20) (by omega) hlt2 (HINC.out _ hlt2)
      rw [show ((20 * t + 20 : Nat) : Int) = ((20 * t : Nat) : Int) + 20 from by omega] at hc
      have HC : Hid (Calls Ybaf.prog 32 _ wr _) := hc
      clear hc
      generalize hA : 20 * t = A at *
      go_wp2_with fail
      refine HC.out.mono ?_
      rintro r w' ⟨rfl, g', hr', hm', hs', hb'⟩
      have HX : Hid (Bl kk n (20 * (t + 1)) 20 1 g') := by subst hA; exact HL.out.ins (Nat.le_refl _) (Or.inl rfl) hlt2 hm' hs'
      have HM' : Hid (Mix 0 n f g') := HM.out.trans (hm'.mono (Nat.zero_le _) hlt2)
      have HR' : Hid (Rw blk n F E g' w') := hr'
      have HB' : Hid (But [blk] wr w') := hb'
      clear hr' hm' hs' hb'
      go_wp2
      go_roundg (n - 20 * (t + 1))
      case measure => omega
      case rel => exact ⟨t + 1, g', by omega, rfl, by subst hA; go_num, by subst hA; go_num, HX.out, HR'.out, HM'.out, HB.out.trans HB'.out⟩
    · have hz : ¬ ((20 * t + 20 : Nat) : Int) ≤ (n : Int) := by omega
      have hz3 : decide (((20 * t : Nat) : Int) + 20 ≤ (n : Int)) = false := decide_eq_false (by omega)
      have HC : Hid (Calls Ybaf.prog 32 _ wr _) := insertion_any HLS.out HSW.out hn g wr (HB0.out.trans HB.out) HR.out (20 * t) n htn (Nat.le_refl _) (HINC.out _ (Nat.le_refl _))
      generalize hA : 20 * t = A at *
      go_wp2_with fail
      refine HC.out.mono ?_
      rintro r w' ⟨rfl, g', hr', hm', hs', hb'⟩
      have HX : Hid (Bl kk n 0 40 20 g') := by subst hA; exact (HL.out.ins (by omega) (Or.inr rfl) (Nat.le_refl _) hm' hs').again (by omega)
      have HM' : Hid (Mix 0 n f g') := HM.out.trans (hm'.mono (Nat.zero_le _) (Nat.le_refl _))
      have HR' : Hid (Rw blk n F E g' w') := hr'
      have HB' : Hid (But [blk] (w.alloc (DO l1 l2 th blk n c)) w') := HB.out.trans hb'
      clear hr' hm' hs' hb' HL HR HM HB HC HINC c0 c1
      go_wp2_with fail
      go_loopg [4] (n - 20) (fun k s4 wy => ∃ (bs : Nat) (g : Nat → Nat), 0 < bs ∧ (Sz bs ∨ n ≤ bs) ∧ bs ≤ 1280 ∧ k = n - bs ∧ s4 = .int .i64 (bs : Int) ∧ Bl kk n 0 (2 * bs) bs g ∧ Rw blk n F E g wy ∧ Mix 0 n f g ∧ But [blk] (w.alloc (DO l1 l2 th blk n c)) wy)
      case atStart => exact ⟨20, g', by omega, Or.inl (Or.inl rfl), by omega, rfl, rfl, HX.out, HR'.out, HM'.out, HB'.out⟩
      case round =>
        obtain ⟨bs, g, hbs0, hsz, hb12, rfl, rfl, hbl, hr, hmx, hbt⟩ := hrel
        have HL : Hid (Bl kk n 0 (2 * bs) bs g) := hbl
        have HR : Hid (Rw blk n F E g wr) := hr
        have HM : Hid (Mix 0 n f g) := hmx
        have HB : Hid (But [blk] (w.alloc (DO l1 l2 th blk n c)) wr) := hbt
        clear hbl hr hmx hbt HX HR' HM' HB'
        by_cases hbn : bs < n
        · have hz2 : (bs : Int) < (n : Int) := by omega
          have HSZ : Hid (Sz bs) := hsz.resolve_right (by omega)
          clear hsz
          go_wp2_with fail
          go_loopg [5, 6] n (fun k s5 s6 wz => ∃ (t A Bv : Nat) (g : Nat → Nat), A = 2 * bs * t ∧ Bv = A + 2 * bs ∧ k = n - A ∧ s5 = .int .i64 (A : Int) ∧ s6 = .int .i64 (Bv : Int) ∧ A ≤ n ∧ Bl kk n A (2 * bs) bs g ∧ Rw blk n F E g wz ∧ Mix 0 n f g ∧ But [blk] (w.alloc (DO l1 l2 th blk n c)) wz)
          case atStart => exact ⟨0, 0, 2 * bs, g, by simp, by simp, rfl, rfl, by simp, Nat.zero_le _, HL.out, HR.out, HM.out, HB.out⟩
          case round =>
            obtain ⟨t, A, Bv, g, hA, hBv, rfl, rfl, rfl, hAn, hbl, hr, hmx, hbt⟩ := hrel
            have hb4 : wr.heap[w.heap.size]? = some (DO l1 l2 th blk n c) := by
              rw [hbt.block w.heap.size (by simp) (by simp; omega)]; exact blk_new w _
            have c0 : wr.cell? ⟨w.heap.size, 0, none⟩ = some (.func (.func 15) #[] #[l1, l2]) := by rw [blk_cell hb4]; rfl
            have c1 : wr.cell? ⟨w.heap.size, 1, none⟩ = some (.func (.func 31) #[] #[.slice (some ⟨blk, 0, none⟩) n c, th]) := by rw [blk_cell hb4]; rfl
            have HL2 : Hid (Bl kk n A (2 * bs) bs g) := hbl
            have HR2 : Hid (Rw blk n F E g wr) := hr
            have HM2 : Hid (Mix 0 n f g) := hmx
            have HB2 : Hid (But [blk] (w.alloc (DO l1 l2 th blk n c)) wr) := hbt
            have HA : Hid (A = 2 * bs * t) := hA
            have HBV : Hid (Bv = A + 2 * bs) := hBv
            have hBb : Bv = A + 2 * bs := hBv
            clear hbl hr hmx hbt hb4 hA hBv HL HR HM HB
            have e1 : IntKind.i64.wrap ((A : Int) + (bs : Int)) = ((A + bs : Nat) : Int) := by rw [IntKind.wrap_i64]; omega
            have e1' : (A : Int) + (bs : Int) = ((A + bs : Nat) : Int) := by omega
            by_cases hbv : Bv ≤ n
            · have hz4 : (Bv : Int) ≤ (n : Int) := by omega
              have hsub := HL2.out
              rw [HA.out] at hsub
              have q1 : Srt kk A (A + bs) g := by rw [HA.out]; exact (hsub.stb HSZ.out).resolve_right (by rw [← HA.out]; omega)
              have q2 := hsub.right HSZ.out (b := Bv) (by rw [← HA.out]; omega) hbv
              rw [← HA.out] at q2
              have HC : Hid (Calls Ybaf.prog 33 _ wr _) := merge_any HLS.out HSW.out hn 4096 g wr A (A + bs) Bv (by omega) (HB0.out.trans HB2.out) HR2.out (by omega) (by omega) hbv q1 q2.1 q2.2
              clear hsub q1 q2 hBb
              generalize hM : A + bs = M at *
              go_wp2_with fail
              refine HC.out.mono ?_
              rintro r w'' ⟨rfl, g2, hr', hm', hs', hb'⟩
              have HX : Hid (Bl kk n (A + 2 * bs) (2 * bs) bs g2) := by
                have hsub := HL2.out
                have ha := HA.out
                have hbb := HBV.out
                rw [ha] at hsub hm' hs' hbb
                have := hsub.merge HSZ.out (by omega) (Or.inl hbb) hbv hm' hs'
                rw [ha, show 2 * bs * t + 2 * bs = 2 * bs * (t + 1) from by rw [Nat.mul_add, Nat.mul_one]]; exact this
              have HM' : Hid (Mix 0 n f g2) := HM2.out.trans (hm'.mono (Nat.zero_le _) hbv)
              have HR' : Hid (Rw blk n F E g2 w'') := hr'
              have HB' : Hid (But [blk] wr w'') := hb'
              clear hr' hm' hs' hb'
              go_wp2
              go_roundg (n - Bv)
              case measure => have := HBV.out; omega
              case rel => exact ⟨t + 1, Bv, Bv + 2 * bs, g2, by rw [HBV.out, HA.out, Nat.mul_add, Nat.mul_one], rfl, rfl, rfl, by simp, hbv, by rw [HBV.out]; exact HX.out, HR'.out, HM'.out, HB2.out.trans HB'.out⟩
            · have hz4 : ¬ (Bv : Int) ≤ (n : Int) := by omega
              have e5 : IntKind.i64.wrap ((bs : Int) * 2) = ((2 * bs : Nat) : Int) := by rw [IntKind.wrap_i64]; omega
              have e5' : (bs : Int) * 2 = ((2 * bs : Nat) : Int) := by omega
              have hnext : Sz (2 * bs) ∨ n ≤ 2 * bs := by
                rcases HSZ.out with rfl | rfl | rfl | rfl | rfl | rfl
                · exact Or.inl (Or.inr (Or.inl rfl))
                · exact Or.inl (Or.inr (Or.inr (Or.inl rfl)))
                · exact Or.inl (Or.inr (Or.inr (Or.inr (Or.inl rfl))))
                · exact Or.inl (Or.inr (Or.inr (Or.inr (Or.inr (Or.inl rfl)))))
                · exact Or.inl (Or.inr (Or.inr (Or.inr (Or.inr (Or.inr rfl)))))
                · exact Or.inr (by omega)
              have HNX : Hid (Sz (2 * bs) ∨ n ≤ 2 * bs) := hnext
              have hb13 : 2 * bs ≤ 1280 := by rcases HSZ.out with rfl | rfl | rfl | rfl | rfl | rfl <;> omega
              clear hnext
              by_cases hmn : A + bs < n
              · have hz5 : ((A + bs : Nat) : Int) < (n : Int) := by omega
                have hsub := HL2.out
                rw [HA.out] at hsub
                have q1 : Srt kk A (A + bs) g := by rw [HA.out]; exact (hsub.stb HSZ.out).resolve_right (by rw [← HA.out]; omega)
                have q2 := hsub.right HSZ.out (b := n) (by rw [← HA.out]; omega) (Nat.le_refl _)
                rw [← HA.out] at q2
                have HC : Hid (Calls Ybaf.prog 33 _ wr _) := merge_any HLS.out HSW.out hn 4096 g wr A (A + bs) n (by omega) (HB0.out.trans HB2.out) HR2.out (by omega) hmn (Nat.le_refl _) q1 q2.1 q2.2
                clear hsub q1 q2
                generalize hM : A + bs = M at *
                go_wp2_with fail
                refine HC.out.mono ?_
                rintro r w'' ⟨rfl, g2, hr', hm', hs', hb'⟩
                have HX : Hid (Bl kk n 0 (2 * (2 * bs)) (2 * bs) g2) := by
                  have hsub := HL2.out
                  have ha := HA.out
                  have hbb := HBV.out
                  rw [ha] at hsub hm' hs' hbb
                  have := hsub.merge HSZ.out (by omega) (Or.inr rfl) (Nat.le_refl _) hm' hs'
                  exact this.again (by rw [Nat.mul_add, Nat.mul_one]; omega)
                have HM' : Hid (Mix 0 n f g2) := HM2.out.trans (hm'.mono (Nat.zero_le _) (Nat.le_refl _))
                have HR' : Hid (Rw blk n F E g2 w'') := hr'
                have HB' : Hid (But [blk] wr w'') := hb'
                clear hr' hm' hs' hb'
                go_wp2
                go_roundg (n - 2 * bs)
                case measure => omega
                case rel => exact ⟨2 * bs, g2, by omega, HNX.out, hb13, rfl, rfl, HX.out, HR'.out, HM'.out, HB2.out.trans HB'.out⟩
              · have hz5 : ¬ ((A + bs : Nat) : Int) < (n : Int) := by omega
                have HX : Hid (Bl kk n 0 (2 * (2 * bs)) (2 * bs) g) := by
                  have hsub := HL2.out
                  have ha := HA.out
                  rw [ha] at hsub
                  have := hsub.merge HSZ.out (b := n) (by rw [← ha]; omega) (Or.inr rfl) (Nat.le_refl _) (Mix.refl _ _ _) (fun p q p1 pq q1 => hsub.srt1 p q p1 pq q1 (by rw [← ha] at p1; rcases HSZ.out with rfl | rfl | rfl | rfl | rfl | rfl <;> omega))
                  exact this.again (by rw [Nat.mul_add, Nat.mul_one]; omega)
                generalize hM : A + bs = M at *
                go_wp2
                go_roundg (n - 2 * bs)
                case measure => omega
                case rel => exact ⟨2 * bs, g, by omega, HNX.out, hb13, rfl, rfl, HX.out, HR2.out, HM2.out, HB2.out⟩
        · have hz2 : ¬ (bs : Int) < (n : Int) := by omega
          clear hsz
          have HE : Hid (Srt kk 0 n g) := HL.out.end (by omega)
          go_wp2
          go_end0
          exact ⟨rfl, g, HR.out, HM.out, HE.out, ((But.refl _ w).alloc _).trans HB.out⟩
end Go.Proofs.YbulkerqFmt
