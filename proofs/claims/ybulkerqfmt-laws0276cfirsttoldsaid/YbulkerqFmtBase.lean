/-
  The law's parts: the key, the flags' row, the faults' row, the plain law on what is wanted.
-/
import Derived.Test.YbulkerqFmtFirst
import Derived.Test.YbulkerqFmtIs
import Derived.Deep.MidRow
namespace Go.Proofs.YbulkerqFmt
open Go.RowKit Go.Lib

/-- The table, new at each call. -/
def TB : Obj := .cells #[.string ⟨#[97]⟩, .string ⟨#[97, 98]⟩, .string ⟨#[98]⟩, .string ⟨#[98, 97]⟩] 40 (0, 0)
theorem key_any (k : Int) (h0 : 0 ≤ k) (h1 : k ≤ 255) (w : World) : Calls Ybaf.prog 4 #[.int .u8 k] w fun e w' => e = .returned (.string (kt (k % 4).toNat)) ∧ w' = w.alloc TB := by
  have hw : IntKind.i64.wrap k = k := by rw [IntKind.wrap_i64]; omega
  have hcs : k % 4 = 0 ∨ k % 4 = 1 ∨ k % 4 = 2 ∨ k % 4 = 3 := by omega
  have ht : Int.tmod k 4 = k % 4 := Int.tmod_eq_emod_of_nonneg h0
  rcases hcs with h | h | h | h
  all_goals
    rw [h] at ht
    go_enter Ybaf.func4, Ybaf.ntmps4
    go_wp2
    go_ret
    rw [h]
    exact ⟨rfl, rfl⟩

/-- The bytes handed in. -/
def U8s (w : World) (a : Option Addr) (os : List Int) : Prop := ∀ (j : Nat) (z : Int), os[j]? = some z → ∃ b o, a = some ⟨b, o, none⟩ ∧ w.cell? ⟨b, o + j, none⟩ = some (.int .u8 z) ∧ 0 ≤ z ∧ z ≤ 255
/-- The bools handed in. -/
def Bls (w : World) (a : Option Addr) (os : List Bool) : Prop := ∀ (j : Nat) (z : Bool), os[j]? = some z → ∃ b o, a = some ⟨b, o, none⟩ ∧ w.cell? ⟨b, o + j, none⟩ = some (.bool z)
/-- The key's number. -/
def kz (L : List Int) (i : Nat) : Nat := (L.getD i 0 % 4).toNat
theorem kz_lt (L : List Int) (i : Nat) : kz L i < 4 := by unfold kz; omega

/-! ### The flags' row -/
def Fl (fb n i : Nat) (k0 : Nat → Nat) (w : World) : Prop := ∃ cur : Array Value, w.heap[fb]? = some (.cells cur 32 (0, 0)) ∧ cur.size = n * 9 ∧ ∀ p, p < i → cur[p * 9]? = some (.string (kt (k0 p)))
theorem Fl.lt {fb n i : Nat} {k0 : Nat → Nat} {w : World} (h : Fl fb n i k0 w) : fb < w.heap.size := by obtain ⟨c, hc, _⟩ := h; exact blk_lt hc
theorem Fl.start (n : Nat) (k0 : Nat → Nat) (z : Array Value) (w : World) : Fl w.heap.size n 0 k0 (w.alloc (.cells (madeCells z (n * 9)) 32)) :=
  ⟨_, blk_new _ _, size_madeCells _ _, fun p hp => by omega⟩
theorem Fl.on {fb n i : Nat} {k0 : Nat → Nat} {m : List Nat} {w w' : World} (h : Fl fb n i k0 w) (b : But m w w') (hm : fb ∉ m) : Fl fb n i k0 w' := by
  obtain ⟨c, hc, r⟩ := h
  exact ⟨c, (b.block fb (blk_lt hc) hm).trans hc, r⟩
theorem Fl.cell {fb n i : Nat} {k0 : Nat → Nat} {w : World} (h : Fl fb n i k0 w) {p : Nat} (hp : p < i) : w.cell? ⟨fb, p * 9, none⟩ = some (.string (kt (k0 p))) := by
  obtain ⟨c, hc, _, r⟩ := h
  rw [blk_cell hc]; exact r p hp
theorem Fl.has {fb n i : Nat} {k0 : Nat → Nat} {w : World} (h : Fl fb n i k0 w) {k : Nat} (hk : k < n * 9) : ∃ v, w.cell? ⟨fb, k, none⟩ = some v := by
  obtain ⟨c, hc, hz, _⟩ := h
  exact ⟨_, by rw [blk_cell hc]; exact Array.getElem?_eq_getElem (by omega)⟩
theorem Fl.free {fb n i : Nat} {k0 : Nat → Nat} {w : World} (h : Fl fb n i k0 w) (k : Nat) : w.frozen? ⟨fb, k, none⟩ = false := by
  obtain ⟨c, hc, _⟩ := h; exact blk_free hc k

theorem blk_setCells {p : Nat} {e : TypeId} {f : Nat × Nat} : ∀ (vs : List Value) (o : Nat) (c : Array Value) (w : World), w.heap[p]? = some (.cells c e f) → ∃ c', (w.setCells p o vs).heap[p]? = some (.cells c' e f) ∧ c'.size = c.size ∧ (∀ k, k < o ∨ o + vs.length ≤ k → c'[k]? = c[k]?) ∧ ∀ j v, vs[j]? = some v → o + j < c.size → c'[o + j]? = some v
  | [], o, c, w, h => ⟨c, h, rfl, fun _ _ => rfl, fun j v hj => by simp at hj⟩
  | x :: r, o, c, w, h => by
    obtain ⟨c', h1, h2, h3, h4⟩ := blk_setCells r (o + 1) _ (w.setCell ⟨p, o, none⟩ x) (blk_set h x)
    refine ⟨c', h1, by rw [h2]; simp, fun k hk => ?_, fun j v hj hl => ?_⟩
    · rw [h3 k (by simp only [List.length_cons] at hk; omega), Array.getElem?_setIfInBounds_ne (by simp only [List.length_cons] at hk; omega)]
    · cases j with
      | zero =>
        simp at hj; subst hj
        rw [h3 _ (Or.inl (by omega)), Nat.add_zero, Array.getElem?_setIfInBounds_self_of_lt (by omega)]
      | succ j =>
        have := h4 j v (by simpa using hj) (by simp; omega)
        rw [show o + (j + 1) = o + 1 + j from by omega]; exact this
theorem But.setCells {m : List Nat} {a w : World} (h : But m a w) {b : Nat} (hb : b ∈ m) : ∀ (vs : List Value) (o : Nat), But m a (w.setCells b o vs)
  | [], _ => h
  | x :: r, o => (h.set (p := ⟨b, o, none⟩) hb x).setCells hb r (o + 1)
theorem Fl.step {fb n i : Nat} {k0 : Nat → Nat} {w : World} (h : Fl fb n i k0 w) (hi : i < n) {vs : List Value} (h0 : vs[0]? = some (.string (kt (k0 i)))) : Fl fb n (i + 1) k0 (w.setCells fb (i * 9) vs) := by
  obtain ⟨c, hc, hz, hp⟩ := h
  obtain ⟨c', h1, h2, h3, h4⟩ := blk_setCells vs (i * 9) c w hc
  refine ⟨c', h1, by omega, fun p hpi => ?_⟩
  rcases Nat.lt_or_ge p i with hlt | hge
  · rw [h3 _ (Or.inl (by omega))]; exact hp p hlt
  · have hpe : p = i := by omega
    rw [hpe]
    exact h4 0 _ h0 (by omega)
theorem Fl.there {fb n i : Nat} {k0 : Nat → Nat} {w : World} (h : Fl fb n i k0 w) {p : Nat} (hp : p < n) : w.there fb (p * 9) 9 := fun j hj => by
  obtain ⟨v, hv⟩ := h.has (k := p * 9 + j) (by omega)
  exact ⟨by rw [hv]; rfl, h.free _⟩
theorem wpList_store_n {P : Program} {ops : Array Oper} {rest : List Oper} {op : Oper} {a : Act} {w : World} {Q : Exit → Act → World → Prop} (hgd : op.guard = none) (ty : TypeId) (x y : Operand) (ho : op.op = .store ty x y)
    (b o : Nat) (cells : Array Value) (hx : a.eval x = .pointer (some ⟨b, o, none⟩)) (hy : a.eval y = .agg cells)
    (ht : w.there b o cells.size) (hi : (P.info? ty).map (·.size) = some cells.size) (h1 : cells.all (·.oneCell') = true)
    (h : ∀ w', w' = w.setCells b o cells.toList → wpList P ops Q rest (a.put op.dst undef) w') : wpList P ops Q (op :: rest) a w :=
  wpList_store_mid hgd ty x y ho b o cells hx hy ht hi h1 (h _ rfl)
theorem info32n : (Ybaf.prog.info? 32).map (·.size) = some 9 := by kernel_rfl

/-- A flag that bears its key alone. -/
abbrev FL (key : ByteArray) : Array Value := #[.string key, .int .u8 0, .int .u8 0, .bool false, .int .i64 0, .float .f64 0, .string ⟨#[]⟩, .string ⟨#[]⟩, .slice none 0 0]
theorem FL_one (key : ByteArray) : (FL key).all (·.oneCell') = true := by simp [FL, Value.oneCell']
/-- What a round of the first loop leaves. -/
theorem after_flag {w wr w3 : World} {fb n i : Nat} {k0 : Nat → Nat} {key : ByteArray} (hr : Fl fb n i k0 wr) (hb : But [fb] w wr) (hi : i < n) (hk : kt (k0 i) = key) (e : w3 = (wr.alloc TB).setCells fb (i * 9) (FL key).toList) : Fl fb n (i + 1) k0 w3 ∧ But [fb] w w3 := by
  subst hk
  rw [e]
  exact ⟨(hr.on (m := []) ((But.refl _ wr).alloc TB) (by simp)).step hi rfl, (hb.alloc TB).setCells (by simp) _ _⟩

theorem info32z : (Ybaf.prog.info? 32).map (fun i => (i.size, i.bytes)) = some (9, 104) := by kernel_rfl
theorem info32s : (Ybaf.prog.info? 32).map (fun i => i.zero.isSome) = some true := by kernel_rfl
end Go.Proofs.YbulkerqFmt
