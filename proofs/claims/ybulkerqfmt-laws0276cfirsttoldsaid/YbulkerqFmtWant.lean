/-
  The faults' row; what the law wants, plain.
-/
import Derived.Test.YbulkerqFmtBase
namespace Go.Proofs.YbulkerqFmt
open Go.RowKit Go.Lib

/-! ### The faults' row -/
abbrev faultText : ByteArray := ⟨#[102, 97, 117, 108, 116]⟩
/-- A fault's block. -/
abbrev EB : Obj := .cells #[.string faultText] 43 (0, 0)
/-- A fault. -/
abbrev EV (b : Nat) : Value := .iface 41 (.pointer (some ⟨b, 0, none⟩))
structure Fa (ab n : Nat) (E : Nat → Value) (w : World) : Prop where
  row : ∃ cur : Array Value, w.heap[ab]? = some (.cells cur 35 (0, 0)) ∧ cur.size = n ∧ ∀ p, p < n → cur[p]? = some (E p)
  val : ∀ p, E p = .nilIface ∨ ∃ b, E p = EV b ∧ w.heap[b]? = some EB
  inj : ∀ p q b, E p = EV b → E q = EV b → p = q
theorem Fa.lt {ab n : Nat} {E : Nat → Value} {w : World} (h : Fa ab n E w) : ab < w.heap.size := by obtain ⟨c, hc, _⟩ := h.row; exact blk_lt hc
theorem Fa.cell {ab n : Nat} {E : Nat → Value} {w : World} (h : Fa ab n E w) {p : Nat} (hp : p < n) : w.cell? ⟨ab, p, none⟩ = some (E p) := by
  obtain ⟨c, hc, _, r⟩ := h.row
  rw [blk_cell hc]; exact r p hp
theorem Fa.free {ab n : Nat} {E : Nat → Value} {w : World} (h : Fa ab n E w) (k : Nat) : w.frozen? ⟨ab, k, none⟩ = false := by
  obtain ⟨c, hc, _⟩ := h.row; exact blk_free hc k
theorem Fa.on {ab n : Nat} {E : Nat → Value} {w w' : World} (h : Fa ab n E w) (b : But [] w w') : Fa ab n E w' := by
  obtain ⟨⟨c, hc, r⟩, val, inj⟩ := h
  refine ⟨⟨c, (b.block ab (blk_lt hc) (by simp)).trans hc, r⟩, fun p => ?_, inj⟩
  rcases val p with e | ⟨x, e, hx⟩
  · exact Or.inl e
  · exact Or.inr ⟨x, e, (b.block x (blk_lt hx) (by simp)).trans hx⟩
theorem Fa.start (n : Nat) (w : World) : Fa w.heap.size n (fun _ => .nilIface) (w.alloc (.cells (madeCells #[.nilIface] (n * 1)) 35)) := by
  refine ⟨⟨_, blk_new _ _, by rw [size_madeCells, Nat.mul_one], fun p hp => ?_⟩, fun p => Or.inl rfl, fun p q b h => by cases h⟩
  have := toList_madeCells_one .nilIface (n * 1)
  rw [← Array.getElem?_toList, this]
  simp [hp]
theorem Fa.put {ab n : Nat} {E : Nat → Value} {w w' : World} (h : Fa ab n E w) {i : Nat} (hi : i < n) (e : w' = (w.alloc EB).setCell ⟨ab, i, none⟩ (EV w.heap.size)) : Fa ab n (fun p => if p = i then EV w.heap.size else E p) w' := by
  subst e
  obtain ⟨⟨c, hc, hz, r⟩, val, inj⟩ := h
  have hold : ∀ p b, E p = EV b → b < w.heap.size := fun p b hb => by
    rcases val p with e | ⟨x, e, hx⟩
    · rw [e] at hb; cases hb
    · rw [e] at hb; cases hb; exact blk_lt hx
  refine ⟨⟨_, blk_set (blk_alloc hc EB) _, by simp [hz], fun p hp => ?_⟩, fun p => ?_, fun p q b h1 h2 => ?_⟩
  · by_cases h1 : p = i
    · subst h1
      rw [Array.getElem?_setIfInBounds_self_of_lt (by omega)]; simp
    · rw [Array.getElem?_setIfInBounds_ne (by omega)]; simp only [if_neg h1]; exact r p hp
  · have hne : ∀ x, w.heap[x]? = some EB → x ≠ ab := fun x hx hxa => by rw [hxa, hc] at hx; cases hx
    have hal := blk_lt hc
    by_cases h1 : p = i
    · refine Or.inr ⟨w.heap.size, by simp only [if_pos h1], ?_⟩
      rw [Below.heap_setCell _ _ _ _ (fun hxa => by simp at hxa; omega)]; exact blk_new w EB
    · simp only [if_neg h1]
      rcases val p with e | ⟨x, e, hx⟩
      · exact Or.inl e
      · refine Or.inr ⟨x, e, ?_⟩
        rw [Below.heap_setCell _ _ _ _ (fun hxa => hne x hx (by simpa using hxa))]; exact blk_alloc hx EB
  · by_cases p1 : p = i
    · by_cases q1 : q = i
      · omega
      · simp only [if_pos p1, if_neg q1] at h1 h2
        have := hold q b h2
        cases h1; omega
    · by_cases q1 : q = i
      · simp only [if_neg p1, if_pos q1] at h1 h2
        have := hold p b h1
        cases h2; omega
      · simp only [if_neg p1, if_neg q1] at h1 h2
        exact inj p q b h1 h2
theorem But.setNew {a w : World} (h : But [] a w) {p : Addr} (hp : a.heap.size ≤ p.block) (u : Value) : But [] a (w.setCell p u) := by
  have h2 : But [p.block] a (w.setCell p u) := (h.wide (m := [p.block])).set (by simp) u
  exact h2.cut hp

/-! ### What is wanted -/
/-- The inner loop's word: the last number of key k below i. -/
def Lt (k0 : Nat → Nat) (i k : Nat) (v : Int) : Prop := (v = -1 ∧ ∀ j, j < i → k0 j ≠ k) ∨ ∃ y : Nat, v = (y : Int) ∧ y < i ∧ k0 y = k ∧ ∀ j, j < i → k0 j = k → j ≤ y
theorem Lt.start (k0 : Nat → Nat) (k : Nat) : Lt k0 0 k (-1) := Or.inl ⟨rfl, fun j hj => by omega⟩
theorem Lt.hit {k0 : Nat → Nat} {i k : Nat} (e : k0 i = k) : Lt k0 (i + 1) k (i : Int) := Or.inr ⟨i, rfl, by omega, e, fun j hj _ => by omega⟩
theorem Lt.miss {k0 : Nat → Nat} {i k : Nat} {v : Int} (h : Lt k0 i k v) (e : k0 i ≠ k) : Lt k0 (i + 1) k v := by
  rcases h with ⟨h1, h2⟩ | ⟨y, h1, h2, h3, h4⟩
  · exact Or.inl ⟨h1, fun j hj => by
      rcases Nat.lt_or_ge j i with a | a
      · exact h2 j a
      · rw [show j = i from by omega]; exact e⟩
  · exact Or.inr ⟨y, h1, by omega, h3, fun j hj he => by
      rcases Nat.lt_or_ge j i with a | a
      · exact h4 j a he
      · rw [show j = i from by omega] at he; exact absurd he e⟩
/-- The outer loop's word while nothing is found. -/
def Non (k0 : Nat → Nat) (n : Nat) (E : Nat → Value) (k : Nat) : Prop := ∀ y, Lst k0 n y → k0 y < k → E y = .nilIface
/-- .. and when it is. -/
def Fnd (k0 : Nat → Nat) (n : Nat) (E : Nat → Value) (x : Nat) : Prop := Lst k0 n x ∧ (∃ b, E x = EV b) ∧ Non k0 n E (k0 x)
theorem Non.none {k0 : Nat → Nat} {n : Nat} {E : Nat → Value} {k : Nat} (h : Non k0 n E k) (hl : ∀ j, j < n → k0 j ≠ k) : Non k0 n E (k + 1) := fun y hy hk => by
  have := hl y hy.1
  exact h y hy (by omega)
theorem Non.skip {k0 : Nat → Nat} {n : Nat} {E : Nat → Value} {k y : Nat} (h : Non k0 n E k) (hy : y < n) (e : k0 y = k) (hl : ∀ j, j < n → k0 j = k → j ≤ y) (he : E y = .nilIface) : Non k0 n E (k + 1) := fun z hz hk => by
  by_cases h1 : k0 z = k
  · have a1 := hl z hz.1 h1
    have a2 := hz.2 y hy (by omega)
    rw [show z = y from by omega]; exact he
  · exact h z hz (by omega)
theorem Non.found {k0 : Nat → Nat} {n : Nat} {E : Nat → Value} {k y b : Nat} (h : Non k0 n E k) (hy : y < n) (e : k0 y = k) (hl : ∀ j, j < n → k0 j = k → j ≤ y) (he : E y = EV b) : Fnd k0 n E y :=
  ⟨⟨hy, fun x hx ee => hl x hx (by omega)⟩, ⟨b, he⟩, by rw [e]; exact h⟩
/-- Nothing wanted: firstFault has said nil. -/
theorem says_nil {k0 : Nat → Nat} {n : Nat} {E : Nat → Value} {r : Value} {w : World} (h : FirstOk k0 n E r w) (hk : ∀ y, k0 y < 4) (hn : Non k0 n E 4) : r = .nilIface := by
  rcases h with ⟨h1, _⟩ | ⟨x, pb, a, _, h2, _, h4, _⟩
  · exact h1
  · have := hn x h4 (hk x); rw [h2] at this; cases this
/-- x wanted: firstFault has said it. -/
theorem says_it {k0 : Nat → Nat} {n : Nat} {E : Nat → Value} {r : Value} {w : World} {x : Nat} (h : FirstOk k0 n E r w) (hf : Fnd k0 n E x) : ∃ pb b, r = .iface 62 (.pointer (some ⟨pb, 0, none⟩)) ∧ E x = EV b ∧ w.cell? ⟨pb, 1, none⟩ = some (EV b) := by
  obtain ⟨hl, ⟨b, hb⟩, hn⟩ := hf
  rcases h with ⟨_, h2⟩ | ⟨x', pb, a, h1, h2, h3, h4, h5⟩
  · have := h2 x hl; rw [hb] at this; cases this
  · have hxx : x' = x := by
      rcases Nat.lt_trichotomy (k0 x') (k0 x) with a1 | a1 | a1
      · have := hn x' h4 a1; rw [h2] at this; cases this
      · have b1 := hl.2 x' h4.1 a1
        have b2 := h4.2 x hl.1 a1.symm
        omega
      · have := h5 x hl a1; rw [hb] at this; cases this
    subst hxx
    rw [hb] at h2
    cases h2
    exact ⟨pb, b, h1, hb, h3⟩
end Go.Proofs.YbulkerqFmt
