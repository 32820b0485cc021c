/-
  The state that the parser's walks carry: the parser's own block, the tokens' block, the listed map. No walk here.
-/
import Derived.Test.YbulkeqoFmtRows
import Derived.WalkKit
import Derived.Below
namespace Go.Proofs.YbulkeqoFmt
open Go.RowKit

/-- w' is w with new blocks and with writes to the blocks listed in m alone. -/
structure But (m : List Nat) (w w' : World) : Prop where
  os : w'.os = w.os
  tape : w'.tape = w.tape
  output : w'.output = w.output
  size : w.heap.size ≤ w'.heap.size
  block : ∀ k, k < w.heap.size → k ∉ m → w'.heap[k]? = w.heap[k]?

theorem But.refl (m : List Nat) (w : World) : But m w w := ⟨rfl, rfl, rfl, Nat.le_refl _, fun _ _ _ => rfl⟩
theorem But.trans {m : List Nat} {a b c : World} (h : But m a b) (k : But m b c) : But m a c :=
  ⟨k.os.trans h.os, k.tape.trans h.tape, k.output.trans h.output, Nat.le_trans h.size k.size, fun i hi hm => (k.block i (Nat.lt_of_lt_of_le hi h.size) hm).trans (h.block i hi hm)⟩
theorem But.mono {m m' : List Nat} {a b : World} (h : But m a b) (hm : ∀ k ∈ m, k ∈ m') : But m' a b :=
  ⟨h.os, h.tape, h.output, h.size, fun i hi hn => h.block i hi (fun c => hn (hm i c))⟩
theorem But.drew {m : List Nat} {a w : World} (h : But m a w) : But m a w.drew := ⟨h.os, h.tape, h.output, h.size, h.block⟩
theorem But.alloc {m : List Nat} {a w : World} (h : But m a w) (o : Obj) : But m a (w.alloc o) :=
  h.trans ⟨rfl, rfl, rfl, by simp, fun k hk _ => Below.heap_alloc _ _ _ hk⟩
/-- A store into a block that is listed. -/
theorem But.set {m : List Nat} {a w : World} (h : But m a w) {p : Addr} (hp : p.block ∈ m) (u : Value) : But m a (w.setCell p u) :=
  h.trans ⟨rfl, rfl, rfl, by simp [World.setCell], fun k _ hm => Below.heap_setCell _ _ _ _ (fun e => hm (e ▸ hp))⟩
/-- A store into a block that is new. -/
theorem But.setNew {m : List Nat} {a w : World} (h : But m a w) {p : Addr} (hp : a.heap.size ≤ p.block) (u : Value) : But m a (w.setCell p u) :=
  ⟨h.os, h.tape, h.output, by simpa [World.setCell] using h.size, fun k hk hm => (Below.heap_setCell _ _ _ _ (by omega)).trans (h.block k hk hm)⟩
theorem But.grown {m : List Nat} {a w w' : World} {row : Option Nat} (h : But m a w) (hg : w.grownBy w' row) (hr : ∀ k, row = some k → k ∈ m ∨ a.heap.size ≤ k) : But m a w' :=
  ⟨hg.os.trans h.os, hg.tape.trans h.tape, hg.output.trans h.output, Nat.le_trans h.size hg.size, fun k hk hm =>
    (hg.block k (Nat.lt_of_lt_of_le hk h.size) (fun e => by rcases hr k e.symm with c | c; exact hm c; omega)).trans (h.block k hk hm)⟩
theorem But.cell {m : List Nat} {w w' : World} (h : But m w w') {p : Addr} (hs : p.block < w.heap.size) (hp : p.block ∉ m) : w'.cell? p = w.cell? p := World.cell?_of_block (w := w) (h.block p.block hs hp)
theorem But.frozen {m : List Nat} {w w' : World} (h : But m w w') {p : Addr} (hs : p.block < w.heap.size) (hp : p.block ∉ m) : w'.frozen? p = w.frozen? p := World.frozen?_of_block (w := w) (h.block p.block hs hp)
theorem But.below {m : List Nat} {w w' : World} (h : But m w w') {B : Nat} (hB : B ≤ w.heap.size) (hm : ∀ k ∈ m, B ≤ k) : Below B w w' :=
  ⟨h.os, h.tape, h.output, h.size, fun k hk => h.block k (by omega) (fun c => by have := hm k c; omega)⟩

/-! ### One block by its number -/
theorem blk_lt {w : World} {p : Nat} {o : Obj} (h : w.heap[p]? = some o) : p < w.heap.size := (Array.getElem?_eq_some_iff.1 h).1
theorem blk_alloc {w : World} {p : Nat} {o : Obj} (h : w.heap[p]? = some o) (o' : Obj) : (w.alloc o').heap[p]? = some o := (Below.heap_alloc _ _ _ (blk_lt h)).trans h
theorem blk_drew {w : World} {p : Nat} {o : Obj} (h : w.heap[p]? = some o) : w.drew.heap[p]? = some o := h
theorem blk_new (w : World) (o : Obj) : (w.alloc o).heap[w.heap.size]? = some o := by show (w.heap.push o)[_]? = _; simp
theorem blk_set {w : World} {p k : Nat} {c : Array Value} {e : TypeId} {f : Nat × Nat} (h : w.heap[p]? = some (.cells c e f)) (v : Value) :
    (w.setCell ⟨p, k, none⟩ v).heap[p]? = some (.cells (c.setIfInBounds k v) e f) := by
  simp [World.setCell, Array.getElem?_modify, h]
theorem blk_cell {w : World} {p k : Nat} {c : Array Value} {e : TypeId} {f : Nat × Nat} (h : w.heap[p]? = some (.cells c e f)) : w.cell? ⟨p, k, none⟩ = c[k]? := by
  simp [World.cell?, h]
theorem blk_free {w : World} {p : Nat} {c : Array Value} {e : TypeId} (h : w.heap[p]? = some (.cells c e (0, 0))) (k : Nat) : w.frozen? ⟨p, k, none⟩ = false := by
  simp [World.frozen?, h]

/-! ### The tokens, the parser -/
/-- A token: its kind, its text; its place is its index. -/
abbrev Tok := Int × ByteArray

/-- What does not turn: the first block of the call's own, the listed map's block and object, the parser's block, the tokens' block, its capacity, the tokens. -/
structure Pz where
  (B bm P g cap : Nat) (o : Obj) (ts : List Tok)

def PO (z : Pz) (i : Nat) (d : Int) : Obj := .cells #[.string ⟨#[]⟩, .slice (some ⟨z.g, 0, none⟩) z.ts.length z.cap, .int .i64 i, .int .i64 d] 29 (0, 0)

/-- The listed map holds no such key. -/
def NoKey (bm : Nat) (o : Obj) (s : ByteArray) : Prop :=
  ∀ w : World, w.heap[bm]? = some o → (Instr.lookup 70 (.map (some bm)) (.string s) true).run Ybaf.prog w = .ok (.tuple #[.int .i64 0, .bool false]) w

structure St (z : Pz) (w : World) (i : Nat) (d : Int) : Prop where
  b0 : 0 < z.B
  bbm : z.bm < z.B
  bP : z.B ≤ z.P
  bg : z.B ≤ z.g
  gP : z.g ≠ z.P
  par : w.heap[z.P]? = some (PO z i d)
  tok : ∃ cur, w.heap[z.g]? = some (.cells cur 38 (0, 0)) ∧ ∀ (j : Nat) (t : Tok), z.ts[j]? = some t → cur[j * 4]? = some (.int .u8 t.1) ∧ cur[j * 4 + 1]? = some (.string t.2) ∧ cur[j * 4 + 2]? = some (.int .i64 j) ∧ cur[j * 4 + 3]? = some (.int .i64 j)
  glob : w.cell? ⟨0, 0, none⟩ = some (.map (some z.bm))
  map : w.heap[z.bm]? = some z.o
  comma : NoKey z.bm z.o ⟨#[44]⟩
  brace : NoKey z.bm z.o ⟨#[125]⟩
  eof : NoKey z.bm z.o ⟨#[]⟩
  len : z.ts.length ≤ 4000

theorem St.step {z : Pz} {w w' : World} {i i' : Nat} {d d' : Int} (h : St z w i d) {m : List Nat} (hb : But m w w') (hm : ∀ k ∈ m, z.B ≤ k) (hg : z.g ∉ m) (hp : w'.heap[z.P]? = some (PO z i' d')) : St z w' i' d' := by
  obtain ⟨cur, hc, ht⟩ := h.tok
  have hn : ∀ k, k < z.B → k ∉ m := fun k hk c => by have := hm k c; omega
  refine ⟨h.b0, h.bbm, h.bP, h.bg, h.gP, hp, ⟨cur, ?_, ht⟩, ?_, ?_, h.comma, h.brace, h.eof, h.len⟩
  · rw [hb.block z.g (blk_lt hc) hg]; exact hc
  · have hlt : (0 : Nat) < w.heap.size := Nat.lt_of_le_of_lt (Nat.zero_le _) (blk_lt h.map)
    rw [hb.cell (p := ⟨0, 0, none⟩) hlt (hn 0 h.b0)]; exact h.glob
  · rw [hb.block z.bm (blk_lt h.map) (hn _ h.bbm)]; exact h.map

/-- Nothing of the parser's has turned. -/
theorem St.keep {z : Pz} {w w' : World} {i : Nat} {d : Int} (h : St z w i d) {m : List Nat} (hb : But m w w') (hm : ∀ k ∈ m, z.B ≤ k) (hg : z.g ∉ m) (hP : z.P ∉ m) : St z w' i d :=
  h.step hb hm hg (by rw [hb.block z.P (blk_lt h.par) hP]; exact h.par)

/-- What the walk reads of the parser. -/
theorem St.cells {z : Pz} {w : World} {i : Nat} {d : Int} (h : St z w i d) :
    z.P < w.heap.size ∧ z.g < w.heap.size ∧ w.cell? ⟨z.P, 0, none⟩ = some (.string ⟨#[]⟩) ∧ w.cell? ⟨z.P, 1, none⟩ = some (.slice (some ⟨z.g, 0, none⟩) z.ts.length z.cap) ∧ w.cell? ⟨z.P, 2, none⟩ = some (.int .i64 i) ∧
      w.cell? ⟨z.P, 3, none⟩ = some (.int .i64 d) ∧ w.frozen? ⟨z.P, 2, none⟩ = false ∧ w.frozen? ⟨z.P, 3, none⟩ = false := by
  obtain ⟨cur, hc, _⟩ := h.tok
  have hp := h.par
  refine ⟨blk_lt hp, blk_lt hc, ?_, ?_, ?_, ?_, blk_free hp _, blk_free hp _⟩ <;> (rw [blk_cell hp]; rfl)

/-- What the walk reads of a token. -/
theorem St.at {z : Pz} {w : World} {i : Nat} {d : Int} (h : St z w i d) {j : Nat} {t : Tok} (ht : z.ts[j]? = some t) :
    w.cell? ⟨z.g, j * 4, none⟩ = some (.int .u8 t.1) ∧ w.cell? ⟨z.g, j * 4 + 1, none⟩ = some (.string t.2) ∧ w.cell? ⟨z.g, j * 4 + 2, none⟩ = some (.int .i64 j) ∧ w.cell? ⟨z.g, j * 4 + 3, none⟩ = some (.int .i64 j) ∧ j < z.ts.length := by
  obtain ⟨cur, hc, hk⟩ := h.tok
  obtain ⟨k0, k1, k2, k3⟩ := hk j t ht
  refine ⟨?_, ?_, ?_, ?_, (List.getElem?_eq_some_iff.1 ht).1⟩
  all_goals (rw [blk_cell hc]; assumption)

theorem PO_i (z : Pz) (i i' : Nat) (d : Int) {w : World} (h : w.heap[z.P]? = some (PO z i d)) : (w.setCell ⟨z.P, 2, none⟩ (.int .i64 i')).heap[z.P]? = some (PO z i' d) := by
  rw [PO] at h; rw [blk_set h]; rfl
theorem PO_d (z : Pz) (i : Nat) (d d' : Int) {w : World} (h : w.heap[z.P]? = some (PO z i d)) : (w.setCell ⟨z.P, 3, none⟩ (.int .i64 d')).heap[z.P]? = some (PO z i d') := by
  rw [PO] at h; rw [blk_set h]; rfl
end Go.Proofs.YbulkeqoFmt
