/-
  What lies in memory: the container, its list of hooks. No walk here.
-/
import Derived.Test.YbulkeuwFmtLocks
import Derived.WalkKit
import Derived.Below
import Derived.OwnWalk
namespace Go.Proofs.YbulkeuwFmt
open Go.RowKit

theorem blk_lt {w : World} {p : Nat} {o : Obj} (h : w.heap[p]? = some o) : p < w.heap.size := (Array.getElem?_eq_some_iff.1 h).1
theorem blk_alloc {w : World} {p : Nat} {o : Obj} (h : w.heap[p]? = some o) (o' : Obj) : (w.alloc o').heap[p]? = some o := (Below.heap_alloc _ _ _ (blk_lt h)).trans h
theorem blk_drew {w : World} {p : Nat} {o : Obj} (h : w.heap[p]? = some o) : w.drew.heap[p]? = some o := h
theorem blk_new (w : World) (o : Obj) : (w.alloc o).heap[w.heap.size]? = some o := by show (w.heap.push o)[_]? = _; simp
theorem blk_set {w : World} {p k : Nat} {c : Array Value} {e : TypeId} {f : Nat × Nat} (h : w.heap[p]? = some (.cells c e f)) (v : Value) :
    (w.setCell ⟨p, k, none⟩ v).heap[p]? = some (.cells (c.setIfInBounds k v) e f) := by
  simp [World.setCell, Array.getElem?_modify, h]
theorem blk_other {w : World} {p b k : Nat} (h : p ≠ b) (v : Value) : (w.setCell ⟨b, k, none⟩ v).heap[p]? = w.heap[p]? := Below.heap_setCell _ _ _ _ h
theorem blk_cell {w : World} {p k : Nat} {c : Array Value} {e : TypeId} {f : Nat × Nat} (h : w.heap[p]? = some (.cells c e f)) : w.cell? ⟨p, k, none⟩ = c[k]? := by
  simp [World.cell?, h]
theorem blk_free {w : World} {p : Nat} {c : Array Value} {e : TypeId} (h : w.heap[p]? = some (.cells c e (0, 0))) (k : Nat) : w.frozen? ⟨p, k, none⟩ = false := by
  simp [World.frozen?, h]

/-- The container: the hooks' blocks, the lock's state word. -/
def CO (ov : Value) (m : Int) : Obj := .cells #[.int .i64 15000000000, .int .i32 m, .int .u32 0, .slice none 0 0, .map none, .int .i32 0, .int .i32 0, .slice none 0 0, ov, .slice none 0 0, .pointer none, .pointer none, .pointer none, .int .i32 0, .int .i32 0, .nilIface, .bool false, .pointer none] 63 (0, 0)

/-- A block of the list: where it lies, how many it holds, its room, its cells. -/
structure Bk where
  (g n cap : Nat) (xs : List Value)
def Bk.val (b : Bk) : Value := .slice (some ⟨b.g, 0, none⟩) b.n b.cap

structure Ls (B : Nat) (w : World) (ov : Value) (bs : List Bk) : Prop where
  bw : B ≤ w.heap.size
  outer : w.ownsRow B 64 1 ov bs.length (bs.map Bk.val)
  inner : ∀ b ∈ bs, w.ownsRow B 69 3 b.val b.n b.xs
  nodup : (bs.map Bk.g).Nodup
  caps : ∀ b ∈ bs, 16 ≤ b.cap ∧ b.cap ≤ 1024

def flat (bs : List Bk) : List Value := bs.flatMap Bk.xs
def num (bs : List Bk) : Nat := (bs.map Bk.n).sum

/-- w' is w with new blocks and with writes to the container, to rows of blocks and of registrations of the call's own. -/
structure Fr (B K : Nat) (w w' : World) : Prop where
  os : w'.os = w.os
  tape : w'.tape = w.tape
  output : w'.output = w.output
  size : w.heap.size ≤ w'.heap.size
  block : ∀ k, k < w.heap.size → k ≠ K → (B ≤ k → ∀ c, w.heap[k]? ≠ some (.cells c 64 (0, 0)) ∧ w.heap[k]? ≠ some (.cells c 69 (0, 0))) → w'.heap[k]? = w.heap[k]?
theorem Fr.refl (B K : Nat) (w : World) : Fr B K w w := ⟨rfl, rfl, rfl, Nat.le_refl _, fun _ _ _ _ => rfl⟩
theorem Fr.trans {B K : Nat} {a b c : World} (h : Fr B K a b) (k : Fr B K b c) : Fr B K a c :=
  ⟨k.os.trans h.os, k.tape.trans h.tape, k.output.trans h.output, Nat.le_trans h.size k.size, fun i hi hK hm => by
    have e := h.block i hi hK hm
    rw [k.block i (Nat.lt_of_lt_of_le hi h.size) hK (fun hB => by rw [e]; exact hm hB)]; exact e⟩
theorem Fr.drew {B K : Nat} {a w : World} (h : Fr B K a w) : Fr B K a w.drew := ⟨h.os, h.tape, h.output, h.size, h.block⟩
theorem Fr.alloc {B K : Nat} {a w : World} (h : Fr B K a w) (o : Obj) : Fr B K a (w.alloc o) :=
  h.trans ⟨rfl, rfl, rfl, by simp, fun k hk _ _ => Below.heap_alloc _ _ _ hk⟩
theorem Fr.setK {B K : Nat} {a w : World} (h : Fr B K a w) (k : Nat) (u : Value) : Fr B K a (w.setCell ⟨K, k, none⟩ u) :=
  h.trans ⟨rfl, rfl, rfl, by simp [World.setCell], fun i _ hK _ => blk_other hK u⟩
theorem Fr.setRow {B K : Nat} {a w : World} (h : Fr B K a w) {b k : Nat} {c : Array Value} (hb : B ≤ b) (hr : w.heap[b]? = some (.cells c 64 (0, 0))) (u : Value) : Fr B K a (w.setCell ⟨b, k, none⟩ u) :=
  h.trans ⟨rfl, rfl, rfl, by simp [World.setCell], fun i _ _ hm => by
    by_cases e : i = b
    · subst e; exact absurd hr (hm hb c).1
    · exact blk_other e u⟩
theorem Fr.grown {B K : Nat} {a w w' : World} (h : Fr B K a w) {row : Option Nat} (hg : w.grownBy w' row) (hr : ∀ k, row = some k → B ≤ k ∧ ∃ c, w.heap[k]? = some (.cells c 64 (0, 0)) ∨ w.heap[k]? = some (.cells c 69 (0, 0))) : Fr B K a w' :=
  h.trans ⟨hg.os, hg.tape, hg.output, hg.size, fun i hi _ hm => by
    refine hg.block i hi fun e => ?_
    obtain ⟨hB, c, hc⟩ := hr i e.symm
    rcases hc with hc | hc
    · exact (hm hB c).1 hc
    · exact (hm hB c).2 hc⟩
theorem Fr.below {B K : Nat} {w w' : World} (h : Fr B K w w') (hB : B ≤ w.heap.size) (hK : B ≤ K) : Below B w w' :=
  ⟨h.os, h.tape, h.output, h.size, fun k hk => h.block k (by omega) (by omega) (fun c => by omega)⟩

/-- What the call owns stays owned where the row's block stays. -/
theorem owns_keep {w w' : World} {B : Nat} {e : TypeId} {size : Nat} {v : Value} {n : Nat} {xs : List Value} (h : w.ownsRow B e size v n xs) (hk : ∀ g c, v.ownBlock = some g → w.heap[g]? = some (.cells c e (0, 0)) → w'.heap[g]? = w.heap[g]?) : w'.ownsRow B e size v n xs := by
  obtain ⟨h1, h2⟩ := h
  refine ⟨h1, ?_⟩
  rcases h2 with h2 | ⟨g, cap, cur, rfl, hg, hh, r⟩
  · exact Or.inl h2
  · exact Or.inr ⟨g, cap, cur, rfl, hg, by rw [hk g cur rfl hh]; exact hh, r⟩
theorem owns_blk {w : World} {B : Nat} {e : TypeId} {size : Nat} {v : Value} {n : Nat} {xs : List Value} (h : w.ownsRow B e size v n xs) : ∀ k, v.ownBlock = some k → B ≤ k ∧ ∃ c, w.heap[k]? = some (.cells c e (0, 0)) := by
  intro k hk
  rcases h.2 with ⟨rfl, _⟩ | ⟨g, cap, cur, rfl, hg, hh, _⟩
  · simp [Value.ownBlock] at hk
  · simp [Value.ownBlock] at hk
    exact ⟨hk ▸ hg, cur, hk ▸ hh⟩
theorem owns_base {w : World} {B B' : Nat} {e : TypeId} {size : Nat} {v : Value} {n : Nat} {xs : List Value} (h : w.ownsRow B e size v n xs) (hb : B' ≤ B) : w.ownsRow B' e size v n xs := by
  refine ⟨h.1, ?_⟩
  rcases h.2 with h2 | ⟨g, cap, cur, hv, hg, r⟩
  · exact Or.inl h2
  · exact Or.inr ⟨g, cap, cur, hv, by omega, r⟩

/-- Steps that leave the list's rows as they are. -/
theorem Ls.keep {B : Nat} {w w' : World} {ov : Value} {bs : List Bk} (h : Ls B w ov bs) (hs : w.heap.size ≤ w'.heap.size) (hk : ∀ g c, B ≤ g → (w.heap[g]? = some (.cells c 64 (0, 0)) ∨ w.heap[g]? = some (.cells c 69 (0, 0))) → w'.heap[g]? = w.heap[g]?) : Ls B w' ov bs :=
  ⟨Nat.le_trans h.bw hs, owns_keep h.outer (fun g c hg hh => hk g c (owns_blk h.outer g hg).1 (Or.inl hh)), fun b hb => owns_keep (h.inner b hb) (fun g c hg hh => hk g c (owns_blk (h.inner b hb) g hg).1 (Or.inr hh)), h.nodup, h.caps⟩
theorem Ls.alloc {B : Nat} {w : World} {ov : Value} {bs : List Bk} (h : Ls B w ov bs) (o : Obj) : Ls B (w.alloc o) ov bs :=
  h.keep (by simp) fun g c _ hh => by rcases hh with hh | hh <;> rw [hh] <;> exact blk_alloc hh o
theorem Ls.setK {B K : Nat} {w : World} {ov ov0 : Value} {m : Int} {bs : List Bk} (h : Ls B w ov bs) (hK : w.heap[K]? = some (CO ov0 m)) (k : Nat) (u : Value) : Ls B (w.setCell ⟨K, k, none⟩ u) ov bs :=
  h.keep (by simp [World.setCell]) fun g c _ hh => blk_other (fun e => by subst e; rw [hK] at hh; simp [CO] at hh) u

/-- A new block at the list's end. -/
theorem Ls.more {B K : Nat} {w w1 w2 w3 : World} {ov ov' ov0 : Value} {bs : List Bk} {sz : Nat} {o : Obj} {m : Int} (h : Ls B w ov bs) (h1 : w1.ownsRow B 69 3 (.slice (some ⟨w.heap.size, 0, none⟩) 0 sz) 0 []) (g1 : w.grownBy w1 none) (e2 : w2 = w1.alloc o)
    (h3 : w3.ownsRow B 64 1 ov' (bs.length + 1) (bs.map Bk.val ++ [.slice (some ⟨w.heap.size, 0, none⟩) 0 sz])) (g3 : w2.grownBy w3 ov.ownBlock) (hK : w3.heap[K]? = some (CO ov0 m)) (hz : 16 ≤ sz ∧ sz ≤ 1024) (k : Nat) (u : Value) :
    Ls B (w3.setCell ⟨K, k, none⟩ u) ov' (bs ++ [⟨w.heap.size, 0, sz, []⟩]) := by
  have hs3 : w.heap.size ≤ w3.heap.size := by
    have a := g1.size
    have b := g3.size
    rw [e2, World.size_alloc] at b
    omega
  have keepR : ∀ v n xs, w1.ownsRow B 69 3 v n xs → w3.ownsRow B 69 3 v n xs := fun v n xs hv => by
    refine owns_keep hv fun g c hg hh => ?_
    have hlt : g < w1.heap.size := blk_lt hh
    have e21 : w2.heap[g]? = some (.cells c 69 (0, 0)) := by rw [e2]; exact blk_alloc hh o
    rw [hh, ← e21]
    refine g3.block g (by rw [e2, World.size_alloc]; omega) fun e => ?_
    obtain ⟨hB, c', hc'⟩ := owns_blk h.outer g e.symm
    have : w1.heap[g]? = some (.cells c' 64 (0, 0)) := (g1.block g (blk_lt hc') (by simp)).trans hc'
    rw [hh] at this; simp at this
  have h3' : Ls B w3 ov' (bs ++ [⟨w.heap.size, 0, sz, []⟩]) := by
    refine ⟨Nat.le_trans h.bw hs3, ?_, fun b hb => ?_, ?_, fun b hb => ?_⟩
    · rw [List.length_append, List.map_append]; exact h3
    · rcases List.mem_append.1 hb with hb | hb
      · refine keepR _ _ _ (owns_keep (h.inner b hb) fun g c hg hh => g1.block g (blk_lt hh) (by simp))
      · rw [List.mem_singleton.1 hb]; exact keepR _ _ _ h1
    · rw [List.map_append, List.nodup_append]
      refine ⟨h.nodup, by simp, fun a ha b hb => ?_⟩
      simp at hb
      obtain ⟨x, hx, rfl⟩ := List.mem_map.1 ha
      obtain ⟨_, c, hc⟩ := owns_blk (h.inner x hx) x.g rfl
      have := blk_lt hc
      omega
    · rcases List.mem_append.1 hb with hb | hb
      · exact h.caps b hb
      · rw [List.mem_singleton.1 hb]; exact hz
  exact h3'.setK hK k u

/-- One registration more in the last block. -/
theorem Ls.push {B : Nat} {w w1 w2 : World} {og oc : Nat} {ini : List Bk} {l : Bk} {o : Obj} {news : List Value} (h : Ls B w (.slice (some ⟨og, 0, none⟩) (ini.length + 1) oc) (ini ++ [l])) (e1 : w1 = w.alloc o)
    (h2 : w2.ownsRow B 69 3 (.slice (some ⟨l.g, 0, none⟩) (l.n + 1) l.cap) (l.n + 1) (l.xs ++ news)) (g2 : w1.grownBy w2 (some l.g)) :
    Ls B (w2.setCell ⟨og, ini.length, none⟩ (.slice (some ⟨l.g, 0, none⟩) (l.n + 1) l.cap)) (.slice (some ⟨og, 0, none⟩) (ini.length + 1) oc) (ini ++ [⟨l.g, l.n + 1, l.cap, l.xs ++ news⟩]) ∧ ∃ c, w2.heap[og]? = some (.cells c 64 (0, 0)) ∧ c.size = oc ∧ ini.length < oc := by
  have hs2 : w.heap.size ≤ w2.heap.size := by
    have b := g2.size
    rw [e1, World.size_alloc] at b
    omega
  obtain ⟨hB, c, hc⟩ := owns_blk h.outer og rfl
  obtain ⟨_, cl, hcl⟩ := owns_blk (h.inner l (by simp)) l.g rfl
  have hne : og ≠ l.g := fun e => by rw [e, hcl] at hc; simp at hc
  have hc2 : w2.heap[og]? = some (.cells c 64 (0, 0)) := by
    rw [g2.block og (by rw [e1, World.size_alloc]; have := blk_lt hc; omega) (by simpa using hne), e1]
    exact blk_alloc hc o
  rcases h.outer.2 with ⟨hv, _⟩ | ⟨g, cap, cur, hv, hg, hh, hnc, hcm, hcs, htk⟩
  · cases hv
  · obtain ⟨rfl, rfl⟩ : og = g ∧ oc = cap := by simpa using hv
    rw [hc] at hh
    cases hh
    simp only [List.length_append, List.length_cons, List.length_nil, Nat.zero_add, Nat.mul_one] at hnc hcs htk
    refine ⟨⟨?_, ?_, fun b hb => ?_, ?_, fun b hb => ?_⟩, c, hc2, hcs, by omega⟩
    · simp [World.setCell]; exact Nat.le_trans h.bw hs2
    · refine ⟨by simp, Or.inr ⟨og, oc, c.setIfInBounds ini.length (.slice (some ⟨l.g, 0, none⟩) (l.n + 1) l.cap), by simp, hB, blk_set hc2 _, by simpa using hnc, hcm, by simpa using hcs, ?_⟩⟩
      simp only [List.length_append, List.length_cons, List.length_nil, Nat.zero_add, Nat.mul_one, List.map_append, List.map_cons, List.map_nil] at htk ⊢
      rw [Array.toList_setIfInBounds, List.take_set, htk, List.set_append_right _ _ (by simp)]
      simp [Bk.val]
    · have hgo : ∀ x, x ∈ ini ++ [l] → x.g ≠ og := fun x hx e => by
        obtain ⟨_, c', hc'⟩ := owns_blk (h.inner x hx) x.g rfl
        rw [e, hc] at hc'; simp at hc'
      rcases List.mem_append.1 hb with hb | hb
      · have hx := h.inner b (List.mem_append_left _ hb)
        refine owns_keep hx fun g c' hg hh => ?_
        simp [Bk.val, Value.ownBlock] at hg
        subst hg
        have hnl : b.g ≠ l.g := by
          have := h.nodup
          rw [List.map_append, List.nodup_append] at this
          exact this.2.2 b.g (List.mem_map.2 ⟨b, hb, rfl⟩) l.g (by simp)
        rw [blk_other (hgo b (List.mem_append_left _ hb)), g2.block b.g (by rw [e1, World.size_alloc]; have := blk_lt hh; omega) (by simpa using hnl), e1, hh]
        exact blk_alloc hh o
      · rw [List.mem_singleton.1 hb]
        refine owns_keep h2 fun g c' hg hh => ?_
        simp [Bk.val, Value.ownBlock] at hg
        subst hg
        exact blk_other (fun e => hne e.symm) _
    · have := h.nodup
      simpa using this
    · rcases List.mem_append.1 hb with hb | hb
      · exact h.caps b (List.mem_append_left _ hb)
      · rw [List.mem_singleton.1 hb]; exact h.caps l (by simp)
end Go.Proofs.YbulkeuwFmt
