/-
  Stable sorting, plain: positions, the values that lie there, swaps. No Go here.
-/
import Derived.Test.YbulkerqFmtCards
namespace Go.Proofs.YbulkerqFmt

/-- The order: by key, then by number. -/
def R (kk : Nat → Nat) (x y : Nat) : Prop := kk x < kk y ∨ (kk x = kk y ∧ x < y)
theorem R.trans {kk : Nat → Nat} {x y z : Nat} (h : R kk x y) (k : R kk y z) : R kk x z := by unfold R at *; omega

def Srt (kk : Nat → Nat) (a b : Nat) (f : Nat → Nat) : Prop := ∀ p q, a ≤ p → p < q → q < b → R kk (f p) (f q)
theorem Srt.sub {kk : Nat → Nat} {a b a' b' : Nat} {f : Nat → Nat} (h : Srt kk a b f) (h1 : a ≤ a') (h2 : b' ≤ b) : Srt kk a' b' f := fun p q hp hq hb => h p q (by omega) hq (by omega)
theorem Srt.congr {kk : Nat → Nat} {a b : Nat} {f g : Nat → Nat} (h : Srt kk a b f) (e : ∀ p, a ≤ p → p < b → g p = f p) : Srt kk a b g := fun p q hp hq hb => by rw [e p hp (by omega), e q (by omega) hb]; exact h p q hp hq hb
theorem Srt.small {kk : Nat → Nat} {a b : Nat} {f : Nat → Nat} (h : b ≤ a + 1) : Srt kk a b f := fun p q hp hq hb => by omega

/-- A swap. -/
def swp (f : Nat → Nat) (i j : Nat) : Nat → Nat := fun p => if p = i then f j else if p = j then f i else f p

/-- From f to g the values in [a, b) change places; no other does. -/
structure Mix (a b : Nat) (f g : Nat → Nat) : Prop where
  out : ∀ p, p < a ∨ b ≤ p → g p = f p
  into : ∀ p, a ≤ p → p < b → ∃ q, a ≤ q ∧ q < b ∧ g p = f q
  onto : ∀ q, a ≤ q → q < b → ∃ p, a ≤ p ∧ p < b ∧ g p = f q
theorem Mix.refl (a b : Nat) (f : Nat → Nat) : Mix a b f f := ⟨fun _ _ => rfl, fun p h1 h2 => ⟨p, h1, h2, rfl⟩, fun p h1 h2 => ⟨p, h1, h2, rfl⟩⟩
theorem Mix.trans {a b : Nat} {f g h : Nat → Nat} (m : Mix a b f g) (k : Mix a b g h) : Mix a b f h := by
  refine ⟨fun p hp => (k.out p hp).trans (m.out p hp), fun p h1 h2 => ?_, fun q h1 h2 => ?_⟩
  · obtain ⟨q, a1, a2, e⟩ := k.into p h1 h2
    obtain ⟨r, b1, b2, e'⟩ := m.into q a1 a2
    exact ⟨r, b1, b2, e.trans e'⟩
  · obtain ⟨p, a1, a2, e⟩ := m.onto q h1 h2
    obtain ⟨r, b1, b2, e'⟩ := k.onto p a1 a2
    exact ⟨r, b1, b2, e'.trans e⟩
theorem Mix.mono {a b a' b' : Nat} {f g : Nat → Nat} (m : Mix a b f g) (h1 : a' ≤ a) (h2 : b ≤ b') : Mix a' b' f g := by
  refine ⟨fun p hp => m.out p (by omega), fun p p1 p2 => ?_, fun q q1 q2 => ?_⟩
  · by_cases h : a ≤ p ∧ p < b
    · obtain ⟨q, c1, c2, e⟩ := m.into p h.1 h.2
      exact ⟨q, by omega, by omega, e⟩
    · exact ⟨p, p1, p2, m.out p (by omega)⟩
  · by_cases h : a ≤ q ∧ q < b
    · obtain ⟨p, c1, c2, e⟩ := m.onto q h.1 h.2
      exact ⟨p, by omega, by omega, e⟩
    · exact ⟨q, q1, q2, m.out q (by omega)⟩
theorem Mix.swp {a b i j : Nat} (f : Nat → Nat) (i1 : a ≤ i) (i2 : i < b) (j1 : a ≤ j) (j2 : j < b) : Mix a b f (swp f i j) := by
  refine ⟨fun p hp => ?_, fun p p1 p2 => ?_, fun q q1 q2 => ?_⟩
  · simp only [YbulkerqFmt.swp]; rw [if_neg (by omega), if_neg (by omega)]
  · simp only [YbulkerqFmt.swp]
    by_cases h1 : p = i
    · rw [if_pos h1]; exact ⟨j, j1, j2, rfl⟩
    · rw [if_neg h1]
      by_cases h2 : p = j
      · rw [if_pos h2]; exact ⟨i, i1, i2, rfl⟩
      · rw [if_neg h2]; exact ⟨p, p1, p2, rfl⟩
  · by_cases h1 : q = i
    · refine ⟨j, j1, j2, ?_⟩
      simp only [YbulkerqFmt.swp]
      by_cases h : j = i
      · rw [if_pos h, h1, h]
      · rw [if_neg h, if_pos trivial, h1]
    · by_cases h2 : q = j
      · exact ⟨i, i1, i2, by simp [YbulkerqFmt.swp, h2]⟩
      · exact ⟨q, q1, q2, by simp [YbulkerqFmt.swp, h1, h2]⟩
theorem Mix.congr {a b : Nat} {f g g' : Nat → Nat} (m : Mix a b f g) (e : ∀ p, g' p = g p) : Mix a b f g' := by
  have : g' = g := funext e
  rw [this]; exact m

/-! ### Insertion -/
/-- The value at i, moved down to j; those from j on, up by one. -/
def ins (g : Nat → Nat) (i j : Nat) : Nat → Nat := fun p => if p = j then g i else if j < p ∧ p ≤ i then g (p - 1) else g p
theorem ins_self (g : Nat → Nat) (i : Nat) : ins g i i = g := by
  funext p
  simp only [ins]
  by_cases h : p = i
  · rw [if_pos h, h]
  · rw [if_neg h, if_neg (by omega)]
theorem ins_step (g : Nat → Nat) {i j : Nat} (hj : 0 < j) (hji : j ≤ i) : swp (ins g i j) j (j - 1) = ins g i (j - 1) := by
  funext p
  simp only [swp, ins]
  by_cases h1 : p = j
  · subst h1
    rw [if_pos rfl, if_neg (by omega), if_neg (by omega), if_neg (by omega), if_pos (by omega)]
  · rw [if_neg h1]
    by_cases h2 : p = j - 1
    · rw [if_pos h2, if_pos trivial, if_pos h2]
    · rw [if_neg h2, if_neg h1, if_neg h2]
      by_cases h3 : j < p ∧ p ≤ i
      · rw [if_pos h3, if_pos (by omega)]
      · rw [if_neg h3, if_neg (by omega)]
theorem ins_sorted {kk : Nat → Nat} {a i j : Nat} {g : Nat → Nat} (hs : Srt kk a i g) (haj : a ≤ j) (hji : j ≤ i) (hup : ∀ p, j ≤ p → p < i → R kk (g i) (g p)) (hlo : ∀ p, a ≤ p → p < j → R kk (g p) (g i)) : Srt kk a (i + 1) (ins g i j) := by
  intro p q hp hpq hq
  simp only [ins]
  by_cases h1 : p = j
  · rw [if_pos h1, if_neg (by omega), if_pos (by omega)]
    exact hup _ (by omega) (by omega)
  · rw [if_neg h1]
    by_cases h2 : q = j
    · rw [if_pos h2, if_neg (by omega)]
      exact hlo _ hp (by omega)
    · rw [if_neg h2]
      by_cases h3 : j < p ∧ p ≤ i
      · rw [if_pos h3, if_pos (by omega)]
        exact hs _ _ (by omega) (by omega) (by omega)
      · rw [if_neg h3]
        by_cases h4 : j < q ∧ q ≤ i
        · rw [if_pos h4]; exact hs _ _ hp (by omega) (by omega)
        · rw [if_neg h4]; exact hs _ _ hp hpq (by omega)
/-- The value at a, moved up to i - 1. -/
def ups (g : Nat → Nat) (a k : Nat) : Nat → Nat := fun p => if p = k then g a else if a ≤ p ∧ p < k then g (p + 1) else g p
theorem ups_self (g : Nat → Nat) (a : Nat) : ups g a a = g := by
  funext p
  simp only [ups]
  by_cases h : p = a
  · rw [if_pos h, h]
  · rw [if_neg h, if_neg (by omega)]
theorem ups_step (g : Nat → Nat) {a k : Nat} (hk : a ≤ k) : swp (ups g a k) k (k + 1) = ups g a (k + 1) := by
  funext p
  simp only [swp, ups]
  by_cases h1 : p = k
  · subst h1
    rw [if_pos rfl, if_neg (by omega), if_neg (by omega), if_neg (by omega), if_pos (by omega)]
  · rw [if_neg h1]
    by_cases h2 : p = k + 1
    · rw [if_pos h2, if_pos trivial, if_pos h2]
    · rw [if_neg h2, if_neg h1, if_neg h2]
      by_cases h3 : a ≤ p ∧ p < k
      · rw [if_pos h3, if_pos (by omega)]
      · rw [if_neg h3, if_neg (by omega)]
theorem ups_sorted {kk : Nat → Nat} {a k b : Nat} {g : Nat → Nat} (hs : Srt kk (a + 1) b g) (hak : a ≤ k) (hkb : k < b) (hup : ∀ p, k < p → p < b → R kk (g a) (g p)) (hlo : ∀ p, a < p → p ≤ k → R kk (g p) (g a)) : Srt kk a b (ups g a k) := by
  intro p q hp hpq hq
  simp only [ups]
  by_cases h1 : p = k
  · rw [if_pos h1, if_neg (by omega), if_neg (by omega)]
    exact hup _ (by omega) hq
  · rw [if_neg h1]
    by_cases h2 : q = k
    · rw [if_pos h2, if_pos (by omega)]
      exact hlo _ (by omega) (by omega)
    · rw [if_neg h2]
      by_cases h3 : a ≤ p ∧ p < k
      · rw [if_pos h3]
        by_cases h4 : a ≤ q ∧ q < k
        · rw [if_pos h4]; exact hs _ _ (by omega) (by omega) (by omega)
        · rw [if_neg h4]; exact hs _ _ (by omega) (by omega) hq
      · rw [if_neg h3, if_neg (by omega)]
        exact hs _ _ (by omega) hpq hq

/-! ### The rotation -/
/-- [s, m) and [m, e) change places. -/
def rot (f : Nat → Nat) (s m e : Nat) : Nat → Nat := fun p => if s ≤ p ∧ p < s + (e - m) then f (p - s + m) else if s + (e - m) ≤ p ∧ p < e then f (p - (e - m)) else f p
/-- What the loop holds: the left part done, the right part done, the middle still to rotate. -/
structure Rt (f : Nat → Nat) (s m e i j : Nat) (g : Nat → Nat) : Prop where
  si : i ≤ m - s
  sm : s ≤ m
  me : m ≤ e
  ej : j ≤ e - m
  left : ∀ p, p < m - i → g p = rot f s m e p
  right : ∀ p, m + j ≤ p → g p = rot f s m e p
  one : ∀ t, t < j → rot f s m e (m - i + t) = g (m + t)
  two : ∀ t, t < i → rot f s m e (m - i + j + t) = g (m - i + t)
theorem Rt.start (f : Nat → Nat) {s m e : Nat} (h1 : s ≤ m) (h2 : m ≤ e) : Rt f s m e (m - s) (e - m) f := by
  refine ⟨Nat.le_refl _, h1, h2, Nat.le_refl _, fun p hp => ?_, fun p hp => ?_, fun t ht => ?_, fun t ht => ?_⟩
  · simp only [rot]; rw [if_neg (by omega), if_neg (by omega)]
  · simp only [rot]; rw [if_neg (by omega), if_neg (by omega)]
  · simp only [rot]; rw [if_pos (by omega)]; congr 1; omega
  · simp only [rot]; rw [if_neg (by omega), if_pos (by omega)]; congr 1; omega
/-- n values from a on and n from b on change places. -/
def swr (f : Nat → Nat) (a b n : Nat) : Nat → Nat := fun p => if a ≤ p ∧ p < a + n then f (p - a + b) else if b ≤ p ∧ p < b + n then f (p - b + a) else f p
theorem swr_zero (f : Nat → Nat) (a b : Nat) : swr f a b 0 = f := by
  funext p; simp only [swr]; rw [if_neg (by omega), if_neg (by omega)]
theorem swr_step (f : Nat → Nat) {a b n : Nat} (h : a + n < b) : swp (swr f a b n) (a + n) (b + n) = swr f a b (n + 1) := by
  funext p
  simp only [swp, swr]
  by_cases h1 : p = a + n
  · subst h1
    rw [if_pos rfl, if_neg (by omega), if_neg (by omega), if_pos (by omega)]; congr 1; omega
  · rw [if_neg h1]
    by_cases h2 : p = b + n
    · subst h2
      rw [if_pos rfl, if_neg (by omega), if_neg (by omega), if_neg (by omega), if_pos (by omega)]; congr 1; omega
    · rw [if_neg h2]
      by_cases h3 : a ≤ p ∧ p < a + n
      · rw [if_pos h3, if_pos (by omega)]
      · rw [if_neg h3]
        by_cases h4 : b ≤ p ∧ p < b + n
        · rw [if_pos h4, if_neg (by omega), if_pos (by omega)]
        · rw [if_neg h4, if_neg (by omega), if_neg (by omega)]
theorem Rt.more {f : Nat → Nat} {s m e i j : Nat} {g : Nat → Nat} (h : Rt f s m e i j g) (hij : j < i) : Rt f s m e (i - j) j (swr g (m - i) m j) := by
  obtain ⟨si, sm, me, ej, left, right, one, two⟩ := h
  refine ⟨by omega, sm, me, ej, fun p hp => ?_, fun p hp => ?_, fun t ht => ?_, fun t ht => ?_⟩
  · simp only [swr]
    by_cases h1 : m - i ≤ p ∧ p < m - i + j
    · rw [if_pos h1]
      have := one (p - (m - i)) (by omega)
      rw [show m - i + (p - (m - i)) = p from by omega] at this
      rw [this]; congr 1; omega
    · rw [if_neg h1, if_neg (by omega)]; exact left p (by omega)
  · simp only [swr]; rw [if_neg (by omega), if_neg (by omega)]; exact right p hp
  · simp only [swr]; rw [if_neg (by omega), if_pos (by omega)]
    have := two t (by omega)
    rw [show m - (i - j) + t = m - i + j + t from by omega, this]; congr 1; omega
  · simp only [swr]; rw [if_neg (by omega), if_neg (by omega)]
    have := two (j + t) (by omega)
    rw [show m - (i - j) + j + t = m - i + j + (j + t) from by omega, this]; congr 1; omega
theorem Rt.less {f : Nat → Nat} {s m e i j : Nat} {g : Nat → Nat} (h : Rt f s m e i j g) (hij : i < j) : Rt f s m e i (j - i) (swr g (m - i) (m + j - i) i) := by
  obtain ⟨si, sm, me, ej, left, right, one, two⟩ := h
  refine ⟨si, sm, me, by omega, fun p hp => ?_, fun p hp => ?_, fun t ht => ?_, fun t ht => ?_⟩
  · simp only [swr]; rw [if_neg (by omega), if_neg (by omega)]; exact left p hp
  · simp only [swr]; rw [if_neg (by omega)]
    by_cases h1 : m + j - i ≤ p ∧ p < m + j - i + i
    · rw [if_pos h1]
      have := two (p - (m + j - i)) (by omega)
      rw [show m - i + j + (p - (m + j - i)) = p from by omega] at this
      rw [this]; congr 1; omega
    · rw [if_neg h1]; exact right p (by omega)
  · simp only [swr]; rw [if_neg (by omega), if_neg (by omega)]
    exact one t (by omega)
  · simp only [swr]; rw [if_pos (by omega)]
    have := one (j - i + t) (by omega)
    rw [show m - i + (j - i) + t = m - i + (j - i + t) from by omega, this]; congr 1; omega
theorem Rt.last {f : Nat → Nat} {s m e i : Nat} {g : Nat → Nat} (h : Rt f s m e i i g) : swr g (m - i) m i = rot f s m e := by
  obtain ⟨si, sm, me, ej, left, right, one, two⟩ := h
  funext p
  simp only [swr]
  by_cases h1 : m - i ≤ p ∧ p < m - i + i
  · rw [if_pos h1]
    have := one (p - (m - i)) (by omega)
    rw [show m - i + (p - (m - i)) = p from by omega] at this
    rw [this]; congr 1; omega
  · rw [if_neg h1]
    by_cases h2 : m ≤ p ∧ p < m + i
    · rw [if_pos h2]
      have := two (p - m) (by omega)
      rw [show m - i + i + (p - m) = p from by omega] at this
      rw [this]; congr 1; omega
    · rw [if_neg h2]
      by_cases h3 : p < m - i
      · exact left p h3
      · exact right p (by omega)
theorem rot_mix (f : Nat → Nat) {s m e : Nat} (h1 : s ≤ m) (h2 : m ≤ e) : Mix s e f (rot f s m e) := by
  refine ⟨fun p hp => ?_, fun p p1 p2 => ?_, fun q q1 q2 => ?_⟩
  · simp only [rot]; rw [if_neg (by omega), if_neg (by omega)]
  · simp only [rot]
    by_cases h : s ≤ p ∧ p < s + (e - m)
    · rw [if_pos h]; exact ⟨_, by omega, by omega, rfl⟩
    · rw [if_neg h, if_pos (by omega)]; exact ⟨_, by omega, by omega, rfl⟩
  · by_cases h : q < m
    · refine ⟨q + (e - m), by omega, by omega, ?_⟩
      simp only [rot]; rw [if_neg (by omega), if_pos (by omega)]; congr 1; omega
    · refine ⟨q - m + s, by omega, by omega, ?_⟩
      simp only [rot]; rw [if_pos (by omega)]; congr 1; omega

/-! ### The merge -/
/-- x left of m, y right of it, one key: x is the lesser number. -/
def Stb (kk : Nat → Nat) (a m b : Nat) (f : Nat → Nat) : Prop := ∀ p q, a ≤ p → p < m → m ≤ q → q < b → kk (f p) = kk (f q) → f p < f q
theorem Stb.no {kk : Nat → Nat} {a m b : Nat} {f : Nat → Nat} (h : Stb kk a m b f) {p q : Nat} (hp : a ≤ p) (hm : p < m) (hq : m ≤ q) (hb : q < b) (hl : ¬ kk (f q) < kk (f p)) : R kk (f p) (f q) := by
  unfold R
  rcases Nat.lt_or_ge (kk (f p)) (kk (f q)) with h1 | h1
  · exact Or.inl h1
  · have e : kk (f p) = kk (f q) := by omega
    exact Or.inr ⟨e, h p q hp hm hq hb e⟩

/-- Where the search has ended. -/
structure Cut (kk : Nat → Nat) (a m b mid l0 h0 s : Nat) (f : Nat → Nat) : Prop where
  am : a < m
  mb : m < b
  hmid : mid = (a + b) / 2
  cas : (mid < m ∧ l0 = mid + m - b ∧ h0 = mid) ∨ (m ≤ mid ∧ l0 = a ∧ h0 = m)
  sl : l0 ≤ s
  sh : s ≤ h0
  lo : ∀ c, l0 ≤ c → c < s → R kk (f c) (f (mid + m - 1 - c))
  hi : ∀ c, s ≤ c → c < h0 → R kk (f (mid + m - 1 - c)) (f c)

/-- Behind the rotation: four sorted parts, the two halves in order, and each half's two parts stable. -/
structure Four (kk : Nat → Nat) (a s mid e b : Nat) (g : Nat → Nat) : Prop where
  ls : a ≤ s
  sm : s ≤ mid
  me : mid ≤ e
  eb : e ≤ b
  s1 : Srt kk a s g
  s2 : Srt kk s mid g
  s3 : Srt kk mid e g
  s4 : Srt kk e b g
  x : ∀ p q, a ≤ p → p < mid → mid ≤ q → q < b → R kk (g p) (g q)
  t1 : Stb kk a s mid g
  t2 : Stb kk mid e b g

theorem four_of {kk : Nat → Nat} {a m b mid l0 h0 s : Nat} {f : Nat → Nat} (hc : Cut kk a m b mid l0 h0 s f) (h1 : Srt kk a m f) (h2 : Srt kk m b f) (hst : Stb kk a m b f) :
    Four kk a s mid (mid + m - s) b (rot f s m (mid + m - s)) := by
  obtain ⟨am, mb, hmid, cas, sl, sh, lo, hi⟩ := hc
  have hma : a < mid := by omega
  have hmb : mid < b := by omega
  have b1 : a ≤ s := by omega
  have b2 : s ≤ mid := by omega
  have b3 : s ≤ m := by omega
  have b4 : mid + m - s ≤ b := by omega
  have b5 : m ≤ mid + m - s := by omega
  have b6 : mid ≤ mid + m - s := by omega
  have gL : ∀ p, p < s → rot f s m (mid + m - s) p = f p := fun p hp => by simp only [rot]; rw [if_neg (by omega), if_neg (by omega)]
  have gM : ∀ p, s ≤ p → p < mid → rot f s m (mid + m - s) p = f (p - s + m) := fun p h1 h2 => by simp only [rot]; rw [if_pos (by omega)]
  have gN : ∀ p, mid ≤ p → p < mid + m - s → rot f s m (mid + m - s) p = f (p - (mid - s)) := fun p h1 h2 => by simp only [rot]; rw [if_neg (by omega), if_pos (by omega)]; congr 1; omega
  have gR : ∀ p, mid + m - s ≤ p → rot f s m (mid + m - s) p = f p := fun p hp => by simp only [rot]; rw [if_neg (by omega), if_neg (by omega)]
  -- the two cross facts
  have xLR : ∀ p q, a ≤ p → p < s → mid + m - s ≤ q → q < b → R kk (f p) (f q) := fun p q p1 p2 q1 q2 => by
    have e := lo (s - 1) (by omega) (by omega)
    have e1 : R kk (f p) (f (mid + m - 1 - (s - 1))) := by
      rcases Nat.lt_or_ge p (s - 1) with h | h
      · exact (h1 p (s - 1) p1 h (by omega)).trans e
      · rw [show p = s - 1 from by omega]; exact e
    rcases Nat.lt_or_ge (mid + m - 1 - (s - 1)) q with h | h
    · exact e1.trans (h2 _ q (by omega) h q2)
    · rw [show q = mid + m - 1 - (s - 1) from by omega]; exact e1
  have xRL : ∀ p q, m ≤ p → p < mid + m - s → s ≤ q → q < m → R kk (f p) (f q) := fun p q p1 p2 q1 q2 => by
    have e := hi s (Nat.le_refl _) (by omega)
    have e1 : R kk (f p) (f s) := by
      rcases Nat.lt_or_ge p (mid + m - 1 - s) with h | h
      · exact (h2 p _ p1 h (by omega)).trans e
      · rw [show p = mid + m - 1 - s from by omega]; exact e
    rcases Nat.lt_or_ge s q with h | h
    · exact e1.trans (h1 s q b1 h q2)
    · rw [show q = s from by omega]; exact e1
  refine ⟨b1, b2, b6, b4, ?_, ?_, ?_, ?_, ?_, ?_, ?_⟩
  · exact (h1.sub (Nat.le_refl _) b3).congr fun p _ p2 => gL p p2
  · intro p q p1 pq q2
    rw [gM p p1 (by omega), gM q (by omega) q2]; exact h2 _ _ (by omega) (by omega) (by omega)
  · intro p q p1 pq q2
    rw [gN p p1 (by omega), gN q (by omega) q2]; exact h1 _ _ (by omega) (by omega) (by omega)
  · intro p q p1 pq q2
    rw [gR p p1, gR q (by omega)]; exact h2 _ _ (by omega) pq q2
  · intro p q p1 p2 q1 q2
    rcases Nat.lt_or_ge p s with hp | hp
    · rw [gL p hp]
      rcases Nat.lt_or_ge q (mid + m - s) with hq | hq
      · rw [gN q q1 hq]; exact h1 _ _ p1 (by omega) (by omega)
      · rw [gR q hq]; exact xLR _ _ p1 hp hq q2
    · rw [gM p hp p2]
      rcases Nat.lt_or_ge q (mid + m - s) with hq | hq
      · rw [gN q q1 hq]; exact xRL _ _ (by omega) (by omega) (by omega) (by omega)
      · rw [gR q hq]; exact h2 _ _ (by omega) (by omega) q2
  · intro p q p1 p2 q1 q2 e
    rw [gL p p2, gM q q1 q2] at *
    exact hst _ _ p1 (by omega) (by omega) (by omega) e
  · intro p q p1 p2 q1 q2 e
    rw [gN p p1 p2, gR q q1] at *
    exact hst _ _ (by omega) (by omega) (by omega) q2 e

/-- The two halves merged: the whole is sorted. -/
theorem halves {kk : Nat → Nat} {a mid b : Nat} {g h1 h2 : Nat → Nat} (hx : ∀ p q, a ≤ p → p < mid → mid ≤ q → q < b → R kk (g p) (g q)) (m1 : Mix a mid g h1) (m2 : Mix mid b h1 h2) (s1 : Srt kk a mid h1) (s2 : Srt kk mid b h2) : Srt kk a b h2 := by
  intro p q hp hpq hq
  rcases Nat.lt_or_ge q mid with h | h
  · rw [m2.out p (by omega), m2.out q (by omega)]; exact s1 p q hp hpq h
  · rcases Nat.lt_or_ge p mid with h' | h'
    · rw [m2.out p (by omega)]
      obtain ⟨p', a1, a2, e⟩ := m1.into p hp h'
      obtain ⟨q', b1, b2, e'⟩ := m2.into q h hq
      rw [e, e', m1.out q' (by omega)]
      exact hx p' q' a1 a2 b1 b2
    · exact s2 p q h' hpq hq
end Go.Proofs.YbulkerqFmt
