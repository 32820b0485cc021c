/-
  What lies in memory: slices of bytes, the members' row. No walk here.
-/
import Derived.Test.YbulkerqRows
import Derived.WalkKit
import Derived.Below
import Derived.Laws.IdiomStrings
namespace Go.Proofs.Ybulkerq
open Go.RowKit

/-- w' is w with new blocks and with writes to the blocks listed in m alone. -/
structure But (m : List Nat) (w w' : World) : Prop where
  os : w'.os = w.os
  tape : w'.tape = w.tape
  output : w'.output = w.output
  size : w.heap.size ≤ w'.heap.size
  block : ∀ k, k < w.heap.size → k ∉ m → w'.heap[k]? = w.heap[k]?

theorem But.refl (m : List Nat) (w : World) : But m w w := ⟨rfl, rfl, rfl, Nat.le_refl _, fun _ _ _ => rfl⟩
theorem But.trans {m : List Nat} {a b c : World} (h : But m a b) (k : But m b c) : But m a c :=
  ⟨k.os.trans h.os, k.tape.trans h.tape, k.output.trans h.output, Nat.le_trans h.size k.size, fun i hi hm => (k.block i (Nat.lt_of_lt_of_le hi h.size) hm).trans (h.block i hi hm)⟩
theorem But.drew {m : List Nat} {a w : World} (h : But m a w) : But m a w.drew := ⟨h.os, h.tape, h.output, h.size, h.block⟩
theorem But.alloc {m : List Nat} {a w : World} (h : But m a w) (o : Obj) : But m a (w.alloc o) :=
  h.trans ⟨rfl, rfl, rfl, by simp, fun k hk _ => Below.heap_alloc _ _ _ hk⟩
theorem But.set {m : List Nat} {a w : World} (h : But m a w) {p : Addr} (hp : p.block ∈ m) (u : Value) : But m a (w.setCell p u) :=
  h.trans ⟨rfl, rfl, rfl, by simp [World.setCell], fun k _ hm => Below.heap_setCell _ _ _ _ (fun e => hm (e ▸ hp))⟩
theorem But.cell {m : List Nat} {w w' : World} (h : But m w w') {p : Addr} (hs : p.block < w.heap.size) (hp : p.block ∉ m) : w'.cell? p = w.cell? p := World.cell?_of_block (w := w) (h.block p.block hs hp)
theorem But.below {m : List Nat} {w w' : World} (h : But m w w') {B : Nat} (hB : B ≤ w.heap.size) (hm : ∀ k ∈ m, B ≤ k) : Below B w w' :=
  ⟨h.os, h.tape, h.output, h.size, fun k hk => h.block k (by omega) (fun c => by have := hm k c; omega)⟩

theorem blk_lt {w : World} {p : Nat} {o : Obj} (h : w.heap[p]? = some o) : p < w.heap.size := (Array.getElem?_eq_some_iff.1 h).1
theorem blk_alloc {w : World} {p : Nat} {o : Obj} (h : w.heap[p]? = some o) (o' : Obj) : (w.alloc o').heap[p]? = some o := (Below.heap_alloc _ _ _ (blk_lt h)).trans h
theorem blk_drew {w : World} {p : Nat} {o : Obj} (h : w.heap[p]? = some o) : w.drew.heap[p]? = some o := h
theorem blk_new (w : World) (o : Obj) : (w.alloc o).heap[w.heap.size]? = some o := by show (w.heap.push o)[_]? = _; simp
theorem blk_set {w : World} {p k : Nat} {c : Array Value} {e : TypeId} {f : Nat × Nat} (h : w.heap[p]? = some (.cells c e f)) (v : Value) :
    (w.setCell ⟨p, k, none⟩ v).heap[p]? = some (.cells (c.setIfInBounds k v) e f) := by
  simp [World.setCell, Array.getElem?_modify, h]
theorem blk_cell {w : World} {p k : Nat} {c : Array Value} {e : TypeId} {f : Nat × Nat} (h : w.heap[p]? = some (.cells c e f)) : w.cell? ⟨p, k, none⟩ = c[k]? := by
  simp [World.cell?, h]
theorem blk_free {w : World} {p : Nat} {c : Array Value} {e : TypeId} (h : w.heap[p]? = some (.cells c e (0, 0))) (k : Nat) : w.frozen? ⟨p, k, none⟩ = false := by
  simp [World.frozen?, h]

/-- The slice v holds the bytes of s. -/
def By (w : World) (v : Value) (s : ByteArray) : Prop := ∃ ao cap, v = .slice ao s.size cap ∧ (s.size ≠ 0 → ∃ b fr c, ao = some ⟨b, 0, none⟩ ∧ w.heap[b]? = some (.cells c 5 fr) ∧ ∀ k (h : k < s.size), c[k]? = some (.int .u8 (s[k].toNat : Int)))

theorem By.but {w w' : World} {v : Value} {s : ByteArray} (h : By w v s) {m : List Nat} (hb : But m w w') (hm : ∀ k ∈ m, ∀ c fr, w.heap[k]? ≠ some (.cells c 5 fr)) : By w' v s := by
  obtain ⟨ao, cap, hv, hc⟩ := h
  refine ⟨ao, cap, hv, fun hn => ?_⟩
  obtain ⟨b, fr, c, e, hh, hk⟩ := hc hn
  exact ⟨b, fr, c, e, by rw [hb.block b (blk_lt hh) (fun hmem => hm b hmem c fr hh)]; exact hh, hk⟩

/-- 'string(b)'. -/
theorem By.conv {w : World} {v : Value} {s : ByteArray} (h : By w v s) : (convert 24 9 v).run Yba.prog w = .ok (.string s) w := by
  obtain ⟨ao, cap, rfl, hc⟩ := h
  by_cases hn : s.size = 0
  · have hs : s = ⟨#[]⟩ := by
      cases s with | mk d => simp [ByteArray.size] at hn; simp [hn]
    subst hs
    rw [show ((⟨#[]⟩ : ByteArray).size) = 0 from rfl]
    rw [run_convert_bytes_string w 24 9 5 ao 0 cap Yba.underlying24 Yba.underlying5 Yba.underlying9]
    cases ao with
    | none => rfl
    | some a => exact run_bytesToString w a 0 cap [] (by simp [loadCells, loadCellsFrom])
  · obtain ⟨b, fr, c, rfl, hh, hk⟩ := hc hn
    have := run_convert_bytes_back (P := Yba.prog) w 24 9 5 ⟨b, 0, none⟩ cap s.data.toList Yba.underlying24 Yba.underlying5 Yba.underlying9 (fun j hj => by
      have hj' : j < s.size := by rw [Array.length_toList] at hj; exact hj
      rw [Addr.add_lit, Nat.zero_add, blk_cell hh, hk j hj']
      rfl)
    rw [Array.length_toList, Array.toArray_toList] at this
    exact this

/-- '[]byte(s)'. -/
theorem by_made (w : World) (s : ByteArray) (cap : Nat) (fr : Nat × Nat) : By (w.alloc (.cells (bytesRow s cap) 5 fr)) (.slice (some ⟨w.heap.size, 0, none⟩) s.size cap) s := by
  refine ⟨_, cap, rfl, fun _ => ⟨w.heap.size, fr, bytesRow s cap, rfl, blk_new w _, fun k h => ?_⟩⟩
  have hk : k < s.data.size := h
  simp only [bytesRow]
  rw [Array.getElem?_append_left (by simpa using hk)]
  simp
  exact ⟨s.data[k], Array.getElem?_eq_getElem hk, rfl⟩
theorem by_nil (w : World) : By w (.slice none 0 0) ⟨#[]⟩ := ⟨none, 0, rfl, fun h => absurd rfl h⟩

/-! ### The members' row -/
structure Mb (w : World) (M n : Nat) (ms : List (ByteArray × ByteArray)) : Prop where
  row : ∃ cur, w.heap[M]? = some (.cells cur 29 (0, 0)) ∧ cur.size = n * 2 ∧ ∀ (k : Nat) (q : ByteArray × ByteArray), ms[k]? = some q → ∃ nv rv, cur[k * 2]? = some nv ∧ cur[k * 2 + 1]? = some rv ∧ By w nv q.1 ∧ By w rv q.2

theorem Mb.step {w w' : World} {M n : Nat} {ms : List (ByteArray × ByteArray)} {q : ByteArray × ByteArray} {nv rv : Value} (h : Mb w M n ms) (hlt : ms.length < n) (hb : But [M] w w') (hn : By w' nv q.1) (hr : By w' rv q.2)
    (hM : ∀ cur, w.heap[M]? = some (.cells cur 29 (0, 0)) → w'.heap[M]? = some (.cells ((cur.setIfInBounds (ms.length * 2) nv).setIfInBounds (ms.length * 2 + 1) rv) 29 (0, 0))) : Mb w' M n (ms ++ [q]) := by
  obtain ⟨cur, hc, hs, hk⟩ := h.row
  refine ⟨⟨_, hM cur hc, by simp [hs], fun k p hp => ?_⟩⟩
  by_cases hkl : k < ms.length
  · rw [List.getElem?_append_left hkl] at hp
    obtain ⟨nv', rv', e1, e2, b1, b2⟩ := hk k p hp
    have hm : ∀ x ∈ [M], ∀ c fr, w.heap[x]? ≠ some (.cells c 5 fr) := by
      intro x hx c fr; rw [List.mem_singleton.1 hx, hc]; simp
    refine ⟨nv', rv', ?_, ?_, b1.but hb hm, b2.but hb hm⟩
    · rw [Array.getElem?_setIfInBounds_ne (by omega), Array.getElem?_setIfInBounds_ne (by omega)]; exact e1
    · rw [Array.getElem?_setIfInBounds_ne (by omega), Array.getElem?_setIfInBounds_ne (by omega)]; exact e2
  · rw [List.getElem?_append_right (by omega)] at hp
    have hke : k = ms.length := by
      have := (List.getElem?_eq_some_iff.1 hp).1
      simp at this; omega
    subst hke
    simp at hp
    subst hp
    refine ⟨nv, rv, ?_, ?_, hn, hr⟩
    · rw [Array.getElem?_setIfInBounds_ne (by omega), Array.getElem?_setIfInBounds_self_of_lt (by omega)]
    · rw [Array.getElem?_setIfInBounds_self_of_lt (by simp; omega)]

/-- What the walk reads of a member. -/
theorem Mb.at {w : World} {M n : Nat} {ms : List (ByteArray × ByteArray)} (h : Mb w M n ms) {k : Nat} {q : ByteArray × ByteArray} (hq : ms[k]? = some q) : ∃ nv rv, w.cell? ⟨M, k * 2, none⟩ = some nv ∧ w.cell? ⟨M, k * 2 + 1, none⟩ = some rv ∧ By w nv q.1 ∧ By w rv q.2 := by
  obtain ⟨cur, hc, _, hk⟩ := h.row
  obtain ⟨nv, rv, e1, e2, b1, b2⟩ := hk k q hq
  exact ⟨nv, rv, by rw [blk_cell hc]; exact e1, by rw [blk_cell hc]; exact e2, b1, b2⟩
/-- A cell of the row is there to be written. -/
theorem Mb.there {w : World} {M n : Nat} {ms : List (ByteArray × ByteArray)} (h : Mb w M n ms) {k : Nat} (hk : k < n) : (∃ x, w.cell? ⟨M, k * 2, none⟩ = some x) ∧ (∃ x, w.cell? ⟨M, k * 2 + 1, none⟩ = some x) ∧ (∀ i, w.frozen? ⟨M, i, none⟩ = false) ∧ M < w.heap.size := by
  obtain ⟨cur, hc, hs, _⟩ := h.row
  refine ⟨⟨_, by rw [blk_cell hc]; exact Array.getElem?_eq_getElem (by omega)⟩, ⟨_, by rw [blk_cell hc]; exact Array.getElem?_eq_getElem (by omega)⟩, fun i => blk_free hc i, blk_lt hc⟩

/-! ### The last of a name -/
/-- Among the first i members: the last index whose name is nm; -1 where there is none. -/
def lastUpTo (ms : List (ByteArray × ByteArray)) (nm : ByteArray) : Nat → Int
  | 0 => -1
  | i + 1 => if (((ms[i]?).getD (⟨#[]⟩, ⟨#[]⟩)).1.toList == nm.toList) = true then (i : Int) else lastUpTo ms nm i

theorem last_range (ms : List (ByteArray × ByteArray)) (nm : ByteArray) : ∀ i, -1 ≤ lastUpTo ms nm i ∧ lastUpTo ms nm i < i := by
  intro i
  induction i with
  | zero => simp [lastUpTo]
  | succ i ih => simp only [lastUpTo]; split <;> omega
theorem last_keeps (ms : List (ByteArray × ByteArray)) (nm : ByteArray) (i : Nat) : ∀ d, (∀ k, i ≤ k → k < i + d → (((ms[k]?).getD (⟨#[]⟩, ⟨#[]⟩)).1.toList == nm.toList) = false) → lastUpTo ms nm (i + d) = lastUpTo ms nm i := by
  intro d
  induction d with
  | zero => intro _; rfl
  | succ d ih =>
    intro h
    rw [show i + (d + 1) = (i + d) + 1 from by omega, lastUpTo, h (i + d) (by omega) (by omega)]
    simp only [Bool.false_eq_true, if_false]
    exact ih (fun k h1 h2 => h k h1 (by omega))
end Go.Proofs.Ybulkerq
