/-
  The row of declarations in memory; what swap does to it. No walk here.
-/
import Derived.Test.YbulkerqFmtPlain
import Derived.WalkKit
import Derived.Below
import Derived.BigQuiet
import Derived.Lib.ReflectliteSwap
namespace Go.Proofs.YbulkerqFmt
open Go.RowKit Go.Lib

/-- w' is w with new blocks and with writes to the blocks listed in m alone. -/
structure But (m : List Nat) (w w' : World) : Prop where
  os : w'.os = w.os
  tape : w'.tape = w.tape
  output : w'.output = w.output
  size : w.heap.size ≤ w'.heap.size
  block : ∀ k, k < w.heap.size → k ∉ m → w'.heap[k]? = w.heap[k]?
theorem But.refl (m : List Nat) (w : World) : But m w w := ⟨rfl, rfl, rfl, Nat.le_refl _, fun _ _ _ => rfl⟩
theorem But.trans {m : List Nat} {a b c : World} (h : But m a b) (k : But m b c) : But m a c :=
  ⟨k.os.trans h.os, k.tape.trans h.tape, k.output.trans h.output, Nat.le_trans h.size k.size, fun i hi hm => (k.block i (Nat.lt_of_lt_of_le hi h.size) hm).trans (h.block i hi hm)⟩
theorem But.drewN {m : List Nat} {a w : World} (h : But m a w) (n : Nat) : But m a (w.drewN n) := ⟨h.os, h.tape, h.output, h.size, h.block⟩
theorem But.drew {m : List Nat} {a w : World} (h : But m a w) : But m a w.drew := ⟨h.os, h.tape, h.output, h.size, h.block⟩
theorem But.alloc {m : List Nat} {a w : World} (h : But m a w) (o : Obj) : But m a (w.alloc o) :=
  h.trans ⟨rfl, rfl, rfl, by simp, fun k hk _ => Below.heap_alloc _ _ _ hk⟩
theorem But.set {m : List Nat} {a w : World} (h : But m a w) {p : Addr} (hp : p.block ∈ m) (u : Value) : But m a (w.setCell p u) :=
  h.trans ⟨rfl, rfl, rfl, by simp [World.setCell], fun k _ hm => Below.heap_setCell _ _ _ _ (fun e => hm (e ▸ hp))⟩
theorem But.cell {m : List Nat} {w w' : World} (h : But m w w') {p : Addr} (hs : p.block < w.heap.size) (hp : p.block ∉ m) : w'.cell? p = w.cell? p := World.cell?_of_block (w := w) (h.block p.block hs hp)
theorem But.below {m : List Nat} {w w' : World} (h : But m w w') {B : Nat} (hB : B ≤ w.heap.size) (hm : ∀ k ∈ m, B ≤ k) : Below B w w' :=
  ⟨h.os, h.tape, h.output, h.size, fun k hk => h.block k (by omega) (fun c => by have := hm k c; omega)⟩
theorem blk_lt {w : World} {p : Nat} {o : Obj} (h : w.heap[p]? = some o) : p < w.heap.size := (Array.getElem?_eq_some_iff.1 h).1
theorem blk_alloc {w : World} {p : Nat} {o : Obj} (h : w.heap[p]? = some o) (o' : Obj) : (w.alloc o').heap[p]? = some o := (Below.heap_alloc _ _ _ (blk_lt h)).trans h
theorem blk_new (w : World) (o : Obj) : (w.alloc o).heap[w.heap.size]? = some o := by show (w.heap.push o)[_]? = _; simp
theorem blk_set {w : World} {p k : Nat} {c : Array Value} {e : TypeId} {f : Nat × Nat} (h : w.heap[p]? = some (.cells c e f)) (v : Value) :
    (w.setCell ⟨p, k, none⟩ v).heap[p]? = some (.cells (c.setIfInBounds k v) e f) := by
  simp [World.setCell, Array.getElem?_modify, h]
theorem blk_cell {w : World} {p k : Nat} {c : Array Value} {e : TypeId} {f : Nat × Nat} (h : w.heap[p]? = some (.cells c e f)) : w.cell? ⟨p, k, none⟩ = c[k]? := by
  simp [World.cell?, h]
theorem blk_free {w : World} {p : Nat} {c : Array Value} {e : TypeId} (h : w.heap[p]? = some (.cells c e (0, 0))) (k : Nat) : w.frozen? ⟨p, k, none⟩ = false := by
  simp [World.frozen?, h]

/-- The row: at p the flag's pointer and the fault of number f p. -/
def Rw (blk n : Nat) (F E : Nat → Value) (f : Nat → Nat) (w : World) : Prop := ∃ cur : Array Value, w.heap[blk]? = some (.cells cur 47 (0, 0)) ∧ cur.size = n * 2 ∧ ∀ p, p < n → cur[p * 2]? = some (F (f p)) ∧ cur[p * 2 + 1]? = some (E (f p))

theorem Rw.lt {blk n : Nat} {F E : Nat → Value} {f : Nat → Nat} {w : World} (h : Rw blk n F E f w) : blk < w.heap.size := by obtain ⟨c, hc, _⟩ := h; exact blk_lt hc
theorem Rw.cells {blk n : Nat} {F E : Nat → Value} {f : Nat → Nat} {w : World} (h : Rw blk n F E f w) {p : Nat} (hp : p < n) : w.cell? ⟨blk, p * 2, none⟩ = some (F (f p)) ∧ w.cell? ⟨blk, p * 2 + 1, none⟩ = some (E (f p)) ∧ ∀ k, w.frozen? ⟨blk, k, none⟩ = false := by
  obtain ⟨c, hc, _, hk⟩ := h
  exact ⟨by rw [blk_cell hc]; exact (hk p hp).1, by rw [blk_cell hc]; exact (hk p hp).2, blk_free hc⟩
theorem Rw.drewN {blk n : Nat} {F E : Nat → Value} {f : Nat → Nat} {w : World} (h : Rw blk n F E f w) (m : Nat) : Rw blk n F E f (w.drewN m) := h
theorem Rw.alloc {blk n : Nat} {F E : Nat → Value} {f : Nat → Nat} {w : World} (h : Rw blk n F E f w) (o : Obj) : Rw blk n F E f (w.alloc o) := by
  obtain ⟨c, hc, r⟩ := h
  exact ⟨c, blk_alloc hc o, r⟩

theorem info47 : (Ybaf.prog.info? 47).map (fun i => i.size) = some 2 := by kernel_rfl

theorem two_at {x y v : Value} {P : Nat → Option Value} (h0 : P 0 = some x) (h1 : P 1 = some y) : ∀ k, [x, y][k]? = some v → P k = some v := by
  intro k hk
  match k, hk with
  | 0, hk => simp at hk; rw [h0, hk]
  | 1, hk => simp at hk; rw [h1, hk]
  | n + 2, hk => simp at hk

set_option maxRecDepth 100000 in
/-- What the swapper's literal does. -/
theorem swap_run {blk n c : Nat} {F E : Nat → Value} {f : Nat → Nat} {w : World} (hF : ∀ x, (F x).oneCell' = true) (hE : ∀ x, (E x).oneCell' = true) (h : Rw blk n F E f w) {i j : Nat} (hi : i < n) (hj : j < n) :
    ∃ w', (callFunc 31 #[.int .i64 (i : Int), .int .i64 (j : Int), .slice (some ⟨blk, 0, none⟩) n c, typeHandle Ybaf.prog 47]).run Ybaf.prog w = .ok (.value (.tuple #[])) w' ∧ Rw blk n F E (swp f i j) w' ∧ But [blk] w w' := by
  obtain ⟨ie, hie, hs⟩ := Option.map_eq_some_iff.1 info47
  obtain ⟨ci0, ci1, fz⟩ := h.cells hi
  obtain ⟨cj0, cj1, _⟩ := h.cells hj
  have hrun := run_callFunc_extern Ybaf.func31 (by kernel_rfl) (by kernel_rfl) (by kernel_rfl) (e := Extern.ReflectliteSwapper.swap false) (by kernel_rfl) #[.int .i64 (i : Int), .int .i64 (j : Int), .slice (some ⟨blk, 0, none⟩) n c, typeHandle Ybaf.prog 47] w
  have hsw := run_swap_cells (P := Ybaf.prog) false 47 ie hie Ybaf.isAgg47 blk 0 n c i j hi hj [F (f i), E (f i)] [F (f j), E (f j)] (by rw [hs]; rfl) (by rw [hs]; rfl) (by intro v hv; simp at hv; rcases hv with rfl | rfl <;> simp [hF, hE]) (by intro v hv; simp at hv; rcases hv with rfl | rfl <;> simp [hF, hE]) w
    (by rw [hs]; intro k v hk; exact two_at (P := fun k => w.cell? ⟨blk, 0 + i * 2 + k, none⟩) (by simpa using ci0) (by simpa using ci1) k hk)
    (by rw [hs]; intro k v hk; exact two_at (P := fun k => w.cell? ⟨blk, 0 + j * 2 + k, none⟩) (by simpa using cj0) (by simpa using cj1) k hk)
    (fun k _ => fz _) (fun k _ => fz _)
  rw [hs] at hsw
  rw [hsw] at hrun
  refine ⟨_, hrun, ?_, ?_⟩
  · obtain ⟨cur, hc, hz, hk⟩ := h
    simp only [World.setCells, Nat.zero_add]
    refine ⟨_, blk_set (blk_set (blk_set (blk_set hc _) _) _) _, by simp [hz], fun p hp => ?_⟩
    obtain ⟨k0, k1⟩ := hk p hp
    have sz : cur.size = n * 2 := hz
    simp only [swp]
    by_cases h1 : p = i
    · subst h1
      by_cases h2 : p = j
      · subst h2
        rw [if_pos rfl]
        refine ⟨?_, ?_⟩
        · rw [Array.getElem?_setIfInBounds_ne (by omega), Array.getElem?_setIfInBounds_self_of_lt (by simp; omega)]
        · rw [Array.getElem?_setIfInBounds_self_of_lt (by simp; omega)]
      · rw [if_pos rfl]
        refine ⟨?_, ?_⟩
        · rw [Array.getElem?_setIfInBounds_ne (by omega), Array.getElem?_setIfInBounds_ne (by omega), Array.getElem?_setIfInBounds_ne (by omega), Array.getElem?_setIfInBounds_self_of_lt (by omega)]
        · rw [Array.getElem?_setIfInBounds_ne (by omega), Array.getElem?_setIfInBounds_ne (by omega), Array.getElem?_setIfInBounds_self_of_lt (by simp; omega)]
    · rw [if_neg h1]
      by_cases h2 : p = j
      · subst h2
        rw [if_pos rfl]
        refine ⟨?_, ?_⟩
        · rw [Array.getElem?_setIfInBounds_ne (by omega), Array.getElem?_setIfInBounds_self_of_lt (by simp; omega)]
        · rw [Array.getElem?_setIfInBounds_self_of_lt (by simp; omega)]
      · rw [if_neg h2]
        refine ⟨?_, ?_⟩
        · rw [Array.getElem?_setIfInBounds_ne (by omega), Array.getElem?_setIfInBounds_ne (by omega), Array.getElem?_setIfInBounds_ne (by omega), Array.getElem?_setIfInBounds_ne (by omega)]; exact k0
        · rw [Array.getElem?_setIfInBounds_ne (by omega), Array.getElem?_setIfInBounds_ne (by omega), Array.getElem?_setIfInBounds_ne (by omega), Array.getElem?_setIfInBounds_ne (by omega)]; exact k1
  · simp only [World.setCells]
    exact ((((But.refl [blk] w).set (by simp) _).set (by simp) _).set (by simp) _).set (by simp) _
end Go.Proofs.YbulkerqFmt
