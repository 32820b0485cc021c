/-
  lastOfEach, walked.
-/
import Derived.Test.YbulkerqFmtLess
import Derived.Deep.RegionLaw
import Derived.OwnWalk
namespace Go.Proofs.YbulkerqFmt
open Go.RowKit Go.Lib

/-! ### Plain -/
/-- The first m places hold, in the keys' order, of each key its last number. -/
structure Kept (kk : Nat → Nat) (n m : Nat) (g : Nat → Nat) : Prop where
  inc : ∀ p q, p < q → q < m → kk (g p) < kk (g q)
  low : ∀ p, p < m → g p < n
  last : ∀ p, p < m → ∀ x, x < n → kk x = kk (g p) → x ≤ g p
  all : ∀ x, x < n → ∃ p, p < m ∧ kk (g p) = kk x
theorem kept_sorted {kk : Nat → Nat} {n : Nat} (h : ∀ p, p + 1 < n → kk p < kk (p + 1)) : Kept kk n n (fun p => p) := by
  have hs : ∀ d p, p + d + 1 < n → kk p < kk (p + d + 1) := fun d => by
    induction d with
    | zero => exact fun p hp => h p hp
    | succ d ih => exact fun p hp => Nat.lt_trans (ih p (by omega)) (h (p + d + 1) (by omega))
  have hl : ∀ p q, p < q → q < n → kk p < kk q := fun p q h1 h2 => by
    have := hs (q - p - 1) p (by omega)
    rwa [show p + (q - p - 1) + 1 = q from by omega] at this
  refine ⟨fun p q h1 h2 => hl p q h1 h2, fun p hp => hp, fun p hp x hx e => ?_, fun x hx => ⟨x, hx, rfl⟩⟩
  rcases Nat.lt_or_ge p x with h1 | h1
  · have := hl p x h1 hx; omega
  · exact h1

/-- Behind i rounds: k kept. -/
structure Kp (kk : Nat → Nat) (n : Nat) (g : Nat → Nat) (i k : Nat) (g' : Nat → Nat) : Prop where
  le : k ≤ i
  out : ∀ p, i ≤ p → g' p = g p
  src : ∀ p, p < k → ∃ q, q < i ∧ g' p = g q ∧ (q + 1 < n → kk (g q) ≠ kk (g (q + 1)))
  inc : ∀ p q, p < q → q < k → kk (g' p) < kk (g' q)
  all : ∀ q, q < i → (∃ p, p < k ∧ kk (g' p) = kk (g q)) ∨ (i < n ∧ kk (g q) = kk (g i))
theorem Kp.start (kk : Nat → Nat) (n : Nat) (g : Nat → Nat) : Kp kk n g 0 0 g :=
  ⟨Nat.le_refl _, fun _ _ => rfl, fun p h => by omega, fun p q _ h => by omega, fun q h => by omega⟩
theorem Kp.skip {kk : Nat → Nat} {n : Nat} {g : Nat → Nat} {i k : Nat} {g' : Nat → Nat} (h : Kp kk n g i k g') (hi : i + 1 < n) (e : kk (g i) = kk (g (i + 1))) : Kp kk n g (i + 1) k g' := by
  obtain ⟨le, out, src, inc, all⟩ := h
  refine ⟨by omega, fun p hp => out p (by omega), fun p hp => ?_, inc, fun q hq => ?_⟩
  · obtain ⟨q, a, b, c⟩ := src p hp; exact ⟨q, by omega, b, c⟩
  · rcases Nat.lt_or_ge q i with h1 | h1
    · rcases all q h1 with h2 | ⟨_, h2⟩
      · exact Or.inl h2
      · exact Or.inr ⟨hi, h2.trans e⟩
    · rw [show q = i from by omega]; exact Or.inr ⟨hi, e⟩
def upd (g : Nat → Nat) (k v : Nat) : Nat → Nat := fun p => if p = k then v else g p
theorem Kp.keep {kk : Nat → Nat} {n : Nat} {g : Nat → Nat} {i k : Nat} {g' : Nat → Nat} (h : Kp kk n g i k g') (hs : Srt kk 0 n g) (hi : i < n) (e : i + 1 < n → kk (g i) ≠ kk (g (i + 1))) : Kp kk n g (i + 1) (k + 1) (upd g' k (g i)) := by
  obtain ⟨le, out, src, inc, all⟩ := h
  have hlt : ∀ p, p < k → kk (g' p) < kk (g i) := fun p hp => by
    obtain ⟨q, q1, q2, q3⟩ := src p hp
    have a1 := hs q (q + 1) (by omega) (by omega) (by omega)
    have a2 := q3 (by omega)
    rw [q2]
    rcases Nat.lt_or_ge (q + 1) i with h1 | h1
    · have a3 := hs (q + 1) i (by omega) h1 hi
      unfold R at *; omega
    · rw [show i = q + 1 from by omega]; unfold R at *; omega
  refine ⟨by omega, fun p hp => ?_, fun p hp => ?_, fun p q pq hq => ?_, fun q hq => ?_⟩
  · simp only [upd]; rw [if_neg (by omega)]; exact out p (by omega)
  · simp only [upd]
    by_cases h1 : p = k
    · rw [if_pos h1]; exact ⟨i, by omega, rfl, e⟩
    · rw [if_neg h1]
      obtain ⟨q, a, b, c⟩ := src p (by omega); exact ⟨q, by omega, b, c⟩
  · simp only [upd]
    rw [if_neg (show ¬ p = k by omega)]
    by_cases h1 : q = k
    · rw [if_pos h1]; exact hlt p (by omega)
    · rw [if_neg h1]; exact inc p q pq (by omega)
  · rcases Nat.lt_or_ge q i with h1 | h1
    · rcases all q h1 with ⟨p, p1, p2⟩ | ⟨_, h2⟩
      · refine Or.inl ⟨p, by omega, ?_⟩
        simp only [upd]; rw [if_neg (by omega)]; exact p2
      · refine Or.inl ⟨k, by omega, ?_⟩
        simp only [upd]; rw [if_pos trivial]; exact h2.symm
    · refine Or.inl ⟨k, by omega, ?_⟩
      simp only [upd]; rw [if_pos trivial, show q = i from by omega]
theorem Kp.end {kk : Nat → Nat} {n : Nat} {g : Nat → Nat} {k : Nat} {g' : Nat → Nat} (h : Kp kk n g n k g') (hs : Srt kk 0 n g) (hm : Mix 0 n (fun p => p) g) : Kept kk n k g' := by
  obtain ⟨le, out, src, inc, all⟩ := h
  refine ⟨inc, fun p hp => ?_, fun p hp x hx e => ?_, fun x hx => ?_⟩
  · obtain ⟨q, a, b, _⟩ := src p hp
    obtain ⟨r, _, r2, r3⟩ := hm.into q (by omega) a
    rw [b, r3]; exact r2
  · obtain ⟨q, a, b, c⟩ := src p hp
    obtain ⟨r, _, r2, r3⟩ := hm.onto x (by omega) hx
    rw [b] at e ⊢
    rw [← r3] at e ⊢
    rcases Nat.lt_trichotomy r q with h1 | h1 | h1
    · have := hs r q (by omega) h1 a
      unfold R at this; omega
    · rw [h1]; exact Nat.le_refl _
    · have a1 := hs q (q + 1) (by omega) (by omega) (by omega)
      have a2 := c (by omega)
      rcases Nat.lt_or_ge (q + 1) r with h2 | h2
      · have a3 := hs (q + 1) r (by omega) h2 r2
        unfold R at *; omega
      · rw [show r = q + 1 from by omega] at e ⊢; unfold R at *; omega
  · obtain ⟨r, _, r2, r3⟩ := hm.onto x (by omega) hx
    rcases all r r2 with ⟨p, p1, p2⟩ | ⟨h1, _⟩
    · exact ⟨p, p1, by rw [p2, r3]⟩
    · omega

/-! ### Memory -/
theorem Rw.put {blk n : Nat} {F E : Nat → Value} {f : Nat → Nat} {w : World} (h : Rw blk n F E f w) {k v : Nat} (hk : k < n) : Rw blk n F E (upd f k v) (w.setCells blk (k * 2) [F v, E v]) := by
  obtain ⟨cur, hc, hz, hp⟩ := h
  simp only [World.setCells]
  refine ⟨_, blk_set (blk_set hc _) _, by simp [hz], fun p hpn => ?_⟩
  obtain ⟨k0, k1⟩ := hp p hpn
  simp only [upd]
  by_cases h1 : p = k
  · subst h1
    rw [if_pos rfl]
    refine ⟨?_, ?_⟩
    · rw [Array.getElem?_setIfInBounds_ne (by omega), Array.getElem?_setIfInBounds_self_of_lt (by omega)]
    · rw [Array.getElem?_setIfInBounds_self_of_lt (by simp; omega)]
  · rw [if_neg h1]
    refine ⟨?_, ?_⟩
    · rw [Array.getElem?_setIfInBounds_ne (by omega), Array.getElem?_setIfInBounds_ne (by omega)]; exact k0
    · rw [Array.getElem?_setIfInBounds_ne (by omega), Array.getElem?_setIfInBounds_ne (by omega)]; exact k1

theorem wpList_append_room {P : Program} {ops : Array Oper} {rest : List Oper} {o : Oper} {a : Act} {w : World} {Q : Exit → Act → World → Prop}
    (hg : o.guard = none) (s x : Operand) (t : TypeId) (hop : o.op = Op.call { callee := Callee.builtin Builtin.append, args := #[s, x], argTypes := #[t, t] })
    (e : TypeId) (i : TypeInfo) (size : Nat) (h1 : P.underlying t = some (.slice e)) (h2 : P.info? e = some i) (h4 : i.size = size)
    (b off n cap : Nat) (hs : a.eval s = .slice (some ⟨b, off, none⟩) n cap)
    (ad : Addr) (m c : Nat) (news : List Value) (hx : a.eval x = .slice (some ad) m c) (hn : news.length = m * size) (hc : ∀ j u, news[j]? = some u → w.cell? (ad.add j) = some u) (h1c : ∀ u ∈ news, u.oneCell' = true)
    (hroom : n + m ≤ cap) (hspare : ∀ j, j < news.length → (w.cell? ⟨b, off + n * size + j, none⟩).isSome = true ∧ w.frozen? ⟨b, off + n * size + j, none⟩ = false)
    (hK : ∀ w', w' = w.setCells b (off + n * size) news → wpList P ops Q rest (a.put o.dst (.slice (some ⟨b, off, none⟩) (n + m) cap)) w') :
    wpList P ops Q (o :: rest) a w := by
  refine wpList_plain hg fun K hK' => ?_
  subst h4
  have hrun := run_append_room_cells (P := P) w t o.type e i h1 h2 b off n cap ad m c news hn hc h1c hroom (fun j hj => (hspare j hj).1) (fun j hj => (hspare j hj).2)
  unfold Oper.wp
  simp [execOp, hop, resolve, invoke, builtin, hs, hx, hrun, Result.andThen]
  exact hK' _ _ (hK _ rfl)

theorem two_new (w : World) (x y : Value) (t : TypeId) (m : Nat) : ∀ j v, [x, y][j]? = some v → ((w.drewN m).alloc (.cells #[x, y] t)).cell? ((⟨w.heap.size, 0, none⟩ : Addr).add j) = some v := by
  intro j v hj
  match j, hj with
  | 0, hj => simp at hj; subst hj; exact (blk_cell (k := 0) (blk_new (w.drewN m) _)).trans rfl
  | 1, hj => simp at hj; subst hj; exact (blk_cell (k := 1) (blk_new (w.drewN m) _)).trans rfl
  | n + 2, hj => simp at hj
theorem Rw.spare {blk n : Nat} {F E : Nat → Value} {f : Nat → Nat} {w : World} (h : Rw blk n F E f w) {k : Nat} (hk : k < n) (j : Nat) (hj : j < 2) : (w.cell? ⟨blk, 0 + k * 2 + j, none⟩).isSome = true ∧ w.frozen? ⟨blk, 0 + k * 2 + j, none⟩ = false := by
  obtain ⟨c0, c1, fz⟩ := h.cells hk
  rw [Nat.zero_add]
  match j, hj with
  | 0, _ => exact ⟨by rw [Nat.add_zero, c0]; rfl, fz _⟩
  | 1, _ => exact ⟨by rw [c1]; rfl, fz _⟩
/-- What the append in place leaves. -/
theorem after_put {w wr w3 : World} {blk n fb ib cb : Nat} {F E : Nat → Value} {kk g' : Nat → Nat} {x : Nat} {a b : Value} {kp nq : Nat} (ha : F x = a) (hb : E x = b) (hkp : kp < n) (hr : Rw blk n F E g' wr) (he : Env wr blk n fb ib cb F kk) (hbt : But [blk] w wr) (e : w3 = ((wr.drewN nq).alloc (.cells #[a, b] 47)).setCells blk (0 + kp * 2) [a, b]) :
    Rw blk n F E (upd g' kp x) w3 ∧ Env w3 blk n fb ib cb F kk ∧ But [blk] w w3 := by
  have hb3 : But [blk] wr w3 := by
    rw [e]; simp only [World.setCells]
    exact ((((But.refl [blk] wr).drewN nq).alloc _).set (by simp) _).set (by simp) _
  refine ⟨?_, he.on hb3, hbt.trans hb3⟩
  have := ((hr.drewN nq).alloc (.cells #[a, b] 47)).put (v := x) hkp
  rw [ha, hb] at this
  rw [e, Nat.zero_add]; exact this

set_option maxRecDepth 100000 in
set_option maxHeartbeats 2000000 in
theorem lastOfEach_any {blk n fb : Nat} {F E : Nat → Value} {kk : Nat → Nat} (hn : n ≤ 1024) (hE : ∀ x, E x = .nilIface ∨ ∃ t v, E x = .iface t v) (w : World) (hkey : 0 < n → ∀ x, ∃ o, F x = .pointer (some ⟨fb, o, none⟩) ∧ w.cell? ⟨fb, o, none⟩ = some (.string (kt (kk x))) ∧ kk x < 4) (hfl : fb < w.heap.size) (hfb : fb ≠ blk) (h : Rw blk n F E (fun p => p) w) :
    Calls Ybaf.prog 8 #[.slice (some ⟨blk, 0, none⟩) n n, .func (.func 9) #[] #[]] w fun e w' => ∃ m, e = .returned (.slice (some ⟨blk, 0, none⟩) m n) ∧ m ≤ n ∧ ∃ g, Kept kk n m g ∧ Rw blk n F E g w' ∧ But [blk] w w' := by
  have hlt := h.lt
  have H0 : Hid (Rw blk n F E (fun p => p) w) := h
  have HF1 : Hid (0 < n → ∀ x, (F x).oneCell' = true) := fun h0 x => by obtain ⟨o, e, _⟩ := hkey h0 x; rw [e]; rfl
  have HE1 : Hid (∀ x, (E x).oneCell' = true) := fun x => by rcases hE x with e | ⟨t, v, e⟩ <;> rw [e] <;> rfl
  have HKEY : Hid (0 < n → ∀ x, ∃ o, F x = .pointer (some ⟨fb, o, none⟩) ∧ w.cell? ⟨fb, o, none⟩ = some (.string (kt (kk x))) ∧ kk x < 4) := hkey
  have HEE : Hid (∀ x, E x = .nilIface ∨ ∃ t v, E x = .iface t v) := hE
  clear h hkey hE
  obtain ⟨i47, hi47, hz47⟩ := Option.map_eq_some_iff.1 info47
  go_enter Ybaf.func8, Ybaf.ntmps8
  go_wp2_with fail
  go_loopg [5, 6] (n - 1) (fun k s5 s6 wr => ∃ (b : Bool) (i : Nat), 1 ≤ i ∧ (i ≤ n ∨ i = 1) ∧ k = n - i ∧ s5 = .bool b ∧ s6 = .int .i64 (i : Int) ∧ (b = true → ∀ p, p + 1 < i → kk p < kk (p + 1)) ∧ (b = false → 2 ≤ n) ∧ Env wr blk n fb w.heap.size (w.heap.size + 1) F kk ∧ Rw blk n F E (fun p => p) wr ∧ But [blk] w wr)
  case atStart =>
    refine ⟨true, 1, Nat.le_refl _, Or.inr rfl, rfl, rfl, rfl, fun _ p hp => by omega, fun hc => by simp at hc, ?_, (H0.out.alloc _).alloc _, ((But.refl _ w).alloc _).alloc _⟩
    refine ⟨?_, ?_, fun h0 x => ?_, by simp, by simp; omega, by simp; omega, by omega, by omega, hfb⟩
    · have := blk_cell (k := 0) (blk_new (w.alloc (Obj.cells #[Value.slice (some { block := blk, off := 0 }) n n] 44)) (Obj.cells #[Value.func (Fn.func 9) #[] #[]] 51))
      rw [show (w.alloc (Obj.cells #[Value.slice (some { block := blk, off := 0 }) n n] 44)).heap.size = w.heap.size + 1 from by simp] at this
      exact this.trans rfl
    · have := blk_cell (k := 0) (blk_alloc (blk_new w (Obj.cells #[Value.slice (some { block := blk, off := 0 }) n n] 44)) (Obj.cells #[Value.func (Fn.func 9) #[] #[]] 51))
      exact this.trans rfl
    · obtain ⟨o, e1, e2, e3⟩ := HKEY.out h0 x
      exact ⟨o, e1, by rw [(((But.refl [blk] w).alloc _).alloc _).cell hfl (by simpa using hfb)]; exact e2, e3⟩
  case round =>
    obtain ⟨b, i, hi1, hin, rfl, rfl, rfl, hinc, hbf, he, hr, hbt⟩ := hrel
    have HE0 : Hid (Env wr blk n fb w.heap.size (w.heap.size + 1) F kk) := he
    have HR : Hid (Rw blk n F E (fun p => p) wr) := hr
    have HB : Hid (But [blk] w wr) := hbt
    have c1 := he.cmp
    have c2 := he.its
    clear he hr hbt
    cases b with
    | true =>
      have HINC : Hid (∀ p, p + 1 < i → kk p < kk (p + 1)) := hinc rfl
      clear hinc hbf
      by_cases hlt2 : i < n
      · have hz : (i : Int) < (n : Int) := by omega
        obtain ⟨j, rfl⟩ : ∃ j, i = j + 1 := ⟨i - 1, by omega⟩
        have hc : ∀ m, Calls Ybaf.prog 9 #[.pointer (some ⟨blk, j * 2, none⟩), .pointer (some ⟨blk, (j + 1) * 2, none⟩)] (wr.drewN m) fun e w' => e = .returned (.int .i64 (cmpk (kk j) (kk (j + 1)))) ∧ ∃ k, w' = (wr.drewN m).drewN k := fun m => compare_any (fun p => p) (wr.drewN m) (HE0.out.on ((But.refl _ wr).drewN m)) (HR.out.drewN m) (by omega) hlt2
        have hcl : decide (cmpk (kk j) (kk (j + 1)) < 0) = decide (kk j < kk (j + 1)) := cmpk_lt _ _
        generalize cmpk (kk j) (kk (j + 1)) = C at *
        generalize hD : decide (kk j < kk (j + 1)) = D at *
        have HD : Hid (decide (kk j < kk (j + 1)) = D) := hD
        clear hD
        have HC : Hid (∀ m : Nat, Calls Ybaf.prog _ _ (wr.drewN m) _) := hc
        clear hc
        have z1 : (j : Int) < (n : Int) := by omega
        have z2 : ((j + 1 : Nat) : Int) < (n : Int) := by omega
        have z3 : (0 : Int) ≤ (j : Int) := by omega
        go_wp2_with fail
        go_quiet (first | (go_at_call 9; exact Calls.quiet_of (HC.out _)))
        go_wp2
        go_roundg (n - (j + 2))
        case measure => omega
        case rel =>
          refine ⟨D, j + 2, by omega, Or.inl (by omega), rfl, rfl, by go_num, fun hd p hp => ?_, fun _ => by omega, HE0.out.on ((But.refl _ wr).drewN nq), HR.out.drewN nq, HB.out.drewN nq⟩
          rcases Nat.lt_or_ge p j with h1 | h1
          · exact HINC.out p (by omega)
          · have hpj : p = j := by omega
            rw [hpj]; exact of_decide_eq_true (HD.out.trans hd)
      · have hz : ¬ (i : Int) < (n : Int) := by omega
        have HK : Hid (Kept kk n n (fun p => p)) := kept_sorted fun p hp => HINC.out p (by omega)
        go_wp2
        go_ret
        exact ⟨n, rfl, Nat.le_refl _, _, HK.out, HR.out, HB.out⟩
    | false =>
      have hn2 := hbf rfl
      clear hinc hbf
      rcases Nat.lt_or_ge i n with hz' | hz'
      all_goals
        have HS : Hid (Calls Ybaf.prog 14 #[.iface 44 (.slice (some ⟨blk, 0, none⟩) n n), _] wr _) := sliceStable_any (less_ok HE0.out) (HF1.out (by omega)) HE1.out hn2 hn (fun p => p) wr (But.refl _ _) HR.out (fun p _ => rfl)
        go_wp2_with fail
        refine HS.out.mono ?_
        rintro r w2 ⟨rfl, g, hr2, hm2, hs2, hb2⟩
        have HR2 : Hid (Rw blk n F E g w2) := hr2
        have HM2 : Hid (Mix 0 n (fun p => p) g) := hm2
        have HS2 : Hid (Srt kk 0 n g) := hs2
        have HB2 : Hid (But [blk] w w2) := HB.out.trans hb2
        have HE2 : Hid (Env w2 blk n fb w.heap.size (w.heap.size + 1) F kk) := HE0.out.on hb2
        have d1 := HE2.out.cmp
        have d2 := HE2.out.its
        clear hr2 hm2 hs2 hb2 HS HR HE0 HB c1 c2
        go_wp2_with fail
        go_loopg [7, 38] n (fun k s7 s38 wz => ∃ (i kp : Nat) (g' : Nat → Nat), i ≤ n ∧ k = n - i ∧ s7 = .slice (some ⟨blk, 0, none⟩) kp n ∧ s38 = .int .i64 (i : Int) ∧ Kp kk n g i kp g' ∧ Rw blk n F E g' wz ∧ Env wz blk n fb w.heap.size (w.heap.size + 1) F kk ∧ But [blk] w wz)
        case atStart => exact ⟨0, 0, g, Nat.zero_le _, rfl, rfl, rfl, Kp.start _ _ _, HR2.out, HE2.out, HB2.out⟩
        case round =>
          clear d1 d2 HR2 HE2 HB2
          obtain ⟨i, kp, g', hin, rfl, rfl, rfl, hkp, hr, he, hbt⟩ := hrel
          have HK : Hid (Kp kk n g i kp g') := hkp
          have HR : Hid (Rw blk n F E g' wr) := hr
          have HE0 : Hid (Env wr blk n fb w.heap.size (w.heap.size + 1) F kk) := he
          have HB : Hid (But [blk] w wr) := hbt
          have c1 := he.cmp
          have c2 := he.its
          have hkl := hkp.le
          clear hkp hr he hbt
          by_cases hlt2 : i < n
          · have hz : (i : Int) < (n : Int) := by omega
            have hgi : g' i = g i := HK.out.out i (Nat.le_refl _)
            obtain ⟨ci0, ci1, hfz⟩ := HR.out.cells hlt2
            rw [hgi] at ci0 ci1
            have HFZ : Hid (∀ k, wr.frozen? ⟨blk, k, none⟩ = false) := hfz
            clear hfz hgi
            obtain ⟨fo, efo, _⟩ := HKEY.out (by omega) (g i)
            rw [efo] at ci0
            have HFO : Hid (F (g i) = .pointer (some ⟨fb, fo, none⟩)) := efo
            clear efo
            by_cases hi1 : i + 1 < n
            · have hz1 : (i : Int) + 1 < (n : Int) := by omega
              have hg1 : g' (i + 1) = g (i + 1) := HK.out.out (i + 1) (by omega)
              have hg0 : g' i = g i := HK.out.out i (Nat.le_refl _)
              have hc : ∀ m, Calls Ybaf.prog 9 #[.pointer (some ⟨blk, i * 2, none⟩), .pointer (some ⟨blk, (i + 1) * 2, none⟩)] (wr.drewN m) fun e w' => e = .returned (.int .i64 (cmpk (kk (g' i)) (kk (g' (i + 1))))) ∧ ∃ k, w' = (wr.drewN m).drewN k := fun m => compare_any g' (wr.drewN m) (HE0.out.on ((But.refl _ wr).drewN m)) (HR.out.drewN m) hlt2 hi1
              rw [hg0, hg1] at hc
              clear hg0 hg1
              by_cases hkk : kk (g i) = kk (g (i + 1))
              · have hC : cmpk (kk (g i)) (kk (g (i + 1))) = 0 := by rw [hkk]; simp [cmpk]
                rw [hC] at hc
                have HC : Hid (∀ m : Nat, Calls Ybaf.prog _ _ (wr.drewN m) _) := hc
                have HKS : Hid (Kp kk n g (i + 1) kp g') := HK.out.skip hi1 hkk
                clear hc hC hkk
                go_wp2_with fail
                go_quiet (first | (go_at_call 9; exact Calls.quiet_of (HC.out _)))
                go_wp2
                go_roundg (n - (i + 1))
                case measure => omega
                case rel => exact ⟨i + 1, kp, g', by omega, rfl, rfl, by go_num, HKS.out, HR.out.drewN nq, HE0.out.on ((But.refl _ wr).drewN nq), HB.out.drewN nq⟩
              · have hC : (cmpk (kk (g i)) (kk (g (i + 1))) == 0) = false := by rw [cmpk_eq]; exact decide_eq_false hkk
                generalize cmpk (kk (g i)) (kk (g (i + 1))) = C at *
                have HC : Hid (∀ m : Nat, Calls Ybaf.prog _ _ (wr.drewN m) _) := hc
                have HKS : Hid (Kp kk n g (i + 1) (kp + 1) (upd g' kp (g i))) := HK.out.keep HS2.out hlt2 (fun _ => hkk)
                clear hc hkk
                rcases HEE.out (g i) with e0 | ⟨te, ve, e0⟩
                all_goals
                  rw [e0] at ci1
                  have HE4 : Hid (E (g i) = _) := e0
                  clear e0
                  go_wp2_with fail
                  go_quiet (first | (go_at_call 9; exact Calls.quiet_of (HC.out _)))
                  go_wp2_with (at_builtin; refine wpList_append_room rfl (.tmp 58) (.tmp 63) 44 rfl 47 i47 2 Ybaf.underlying44 hi47 hz47 blk 0 kp n rfl ⟨wr.heap.size, 0, none⟩ 1 1 [_, _] rfl rfl (two_new _ _ _ _ _) (by intro u hu; simp at hu; rcases hu with hu | hu <;> (subst hu; rfl)) (by omega) (((HR.out.drewN nq).alloc _).spare (by omega)) ?_; intro w3 e3; obtain ⟨hr3, he3, hb3⟩ := after_put HFO.out HE4.out (by omega) HR.out HE0.out HB.out e3; have HR3 : Hid (Rw blk n F E (upd g' kp (g i)) w3) := hr3; have HE3 : Hid (Env w3 blk n fb w.heap.size (w.heap.size + 1) F kk) := he3; have HB3 : Hid (But [blk] w w3) := hb3; clear hr3 he3 hb3 e3)
                  go_roundg (n - (i + 1))
                  case measure => omega
                  case rel => exact ⟨i + 1, kp + 1, upd g' kp (g i), by omega, rfl, rfl, by go_num, HKS.out, HR3.out, HE3.out, HB3.out⟩
            · have hz1 : ¬ (i : Int) + 1 < (n : Int) := by omega
              have hz2 : decide ((i : Int) + 1 < (n : Int)) = false := decide_eq_false hz1
              have HKS : Hid (Kp kk n g (i + 1) (kp + 1) (upd g' kp (g i))) := HK.out.keep HS2.out hlt2 (fun hc => absurd hc hi1)
              rcases HEE.out (g i) with e0 | ⟨te, ve, e0⟩
              all_goals
                rw [e0] at ci1
                have HE4 : Hid (E (g i) = _) := e0
                clear e0
                go_wp2_with fail
                go_quiet (fail)
                go_wp2_with (at_builtin; refine wpList_append_room rfl (.tmp 58) (.tmp 63) 44 rfl 47 i47 2 Ybaf.underlying44 hi47 hz47 blk 0 kp n rfl ⟨wr.heap.size, 0, none⟩ 1 1 [_, _] rfl rfl (two_new _ _ _ _ _) (by intro u hu; simp at hu; rcases hu with hu | hu <;> (subst hu; rfl)) (by omega) (((HR.out.drewN nq).alloc _).spare (by omega)) ?_; intro w3 e3; obtain ⟨hr3, he3, hb3⟩ := after_put HFO.out HE4.out (by omega) HR.out HE0.out HB.out e3; have HR3 : Hid (Rw blk n F E (upd g' kp (g i)) w3) := hr3; have HE3 : Hid (Env w3 blk n fb w.heap.size (w.heap.size + 1) F kk) := he3; have HB3 : Hid (But [blk] w w3) := hb3; clear hr3 he3 hb3 e3)
                go_roundg (n - (i + 1))
                case measure => omega
                case rel => exact ⟨i + 1, kp + 1, upd g' kp (g i), by omega, rfl, rfl, by go_num, HKS.out, HR3.out, HE3.out, HB3.out⟩
          · have hz : ¬ (i : Int) < (n : Int) := by omega
            have hieq : i = n := by omega
            have HKE : Hid (Kept kk n kp g') := by
              have := HK.out; rw [hieq] at this; exact this.end HS2.out HM2.out
            clear hieq
            go_wp2
            go_ret
            exact ⟨kp, rfl, by omega, g', HKE.out, HR.out, HB.out⟩
end Go.Proofs.YbulkerqFmt
