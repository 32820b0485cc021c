/-
  The selector that is built: what lies in memory while the selector's method goes. No walk here.
-/
import Derived.Test.YbulkeqoFmtParse
import Derived.Deep.RegionLaw
namespace Go.Proofs.YbulkeqoFmt
open Go.RowKit

/-- append onto a row of the call's own, as one step of a region that draws. -/
theorem step_append_own {P : Program} {ops : Array Oper} {o : Oper} {a : Act} {w : World} {K : Act → World → Prop} {Q : Exit → Act → World → Prop} {E : Prop}
    (hg : o.guard = none) (s x : Operand) (t : TypeId) (hop : o.op = Op.call { callee := Callee.builtin Builtin.append, args := #[s, x], argTypes := #[t, t] })
    (e : TypeId) (i : TypeInfo) (z : Value) (size bytes : Nat) (h1 : P.underlying t = some (.slice e)) (h2 : P.info? e = some i) (h3 : i.zero = some z) (h4 : i.size = size) (h5 : i.bytes = bytes) (h6 : z.cells.size = size) (h7 : 0 < size)
    (base : Nat) (v : Value) (n : Nat) (xs : List Value) (hs : a.eval s = v) (hown : w.ownsRow base e size v n xs)
    (ad : Addr) (m c : Nat) (news : List Value) (hx : a.eval x = .slice (some ad) m c) (hn : news.length = m * size) (hc : ∀ j u, news[j]? = some u → w.cell? (ad.add j) = some u) (h1c : ∀ u ∈ news, u.oneCell' = true)
    (b1 : n + m ≤ maxLen) (b2 : (n + m) * bytes ≤ 140737488355328) (hb : base ≤ w.heap.size)
    (hK : ∀ v' w', w'.ownsRow base e size v' (n + m) (xs ++ news) → w.grownBy w' v.ownBlock → K (a.put o.dst v') w') :
    if Region.wanted o (yielded ops a.tmps) = true then Oper.wp P o a w K Q else E := by
  have hw : Region.wanted o (yielded ops a.tmps) = true := by simp [Region.wanted, hg]
  rw [if_pos hw]
  obtain ⟨v', w', hrun, r1, r2, _⟩ := run_append_own (P := P) w base t o.type e i z size bytes h1 h2 h3 h4 h5 h6 h7 v n xs hown ad m c news hn hc h1c b1 b2 hb
  unfold Oper.wp
  simp [execOp, hop, resolve, invoke, builtin, hs, hx, hrun, Result.andThen]
  exact hK v' w' r1 r2

/-- What the call owns stays owned while other blocks turn. -/
theorem ownsRow_but {w w' : World} {base : Nat} {e : TypeId} {size : Nat} {v : Value} {n : Nat} {xs : List Value} (h : w.ownsRow base e size v n xs) {m : List Nat} (hb : But m w w')
    (hm : ∀ g c, g ∈ m → w.heap[g]? ≠ some (.cells c e (0, 0))) : w'.ownsRow base e size v n xs := by
  obtain ⟨h1, h2⟩ := h
  refine ⟨h1, ?_⟩
  rcases h2 with h2 | ⟨g, cap, cur, hv, hg, hh, r⟩
  · exact Or.inl h2
  · exact Or.inr ⟨g, cap, cur, hv, hg, by rw [hb.block g (blk_lt hh) (fun c => hm g _ c hh)]; exact hh, r⟩

/-- The value of an owned row of one element or more, or of none. -/
theorem ownsRow_own {w : World} {base : Nat} {e : TypeId} {size : Nat} {v : Value} {n : Nat} {xs : List Value} (h : w.ownsRow base e size v n xs) :
    ∀ k, v.ownBlock = some k → ∃ c, w.heap[k]? = some (.cells c e (0, 0)) ∧ base ≤ k := by
  intro k hk
  rcases h.2 with ⟨rfl, _⟩ | ⟨g, cap, cur, rfl, hg, hh, _⟩
  · simp [Value.ownBlock] at hk
  · simp [Value.ownBlock] at hk
    exact ⟨cur, hk ▸ hh, hk ▸ hg⟩

/-- A field of the selector: its name, its value's text, the value's place among the tokens, the block of its literal. -/
structure Fl where
  (nm vl : ByteArray) (ps lb : Nat)

def flCells (fs : List Fl) : List Value := fs.flatMap fun f => [.string f.nm, .iface 46 (.pointer (some ⟨f.lb, 0, none⟩))]

/-- The selector's block. -/
def InsO (tv fv : Value) : Obj := .cells #[tv, fv, .int .i64 0] 43 (0, 0)

structure In (z : Pz) (b : Nat) (w : World) (I : Nat) (ps : List ByteArray) (fs : List Fl) : Prop where
  zb : z.B ≤ b
  bw : b ≤ w.heap.size
  bI : b ≤ I
  ins : ∃ tv fv, w.heap[I]? = some (InsO tv fv) ∧ w.ownsRow b 9 1 tv ps.length (ps.map Value.string) ∧ w.ownsRow b 45 2 fv fs.length (flCells fs)
  lits : ∀ f ∈ fs, w.heap[f.lb]? = some (LO f.vl f.ps)

/-- Steps that write to blocks of other kinds than the selector's leave the selector as it is. -/
theorem In.keep {z : Pz} {b : Nat} {w w' : World} {I : Nat} {ps : List ByteArray} {fs : List Fl} (h : In z b w I ps fs) {m : List Nat} (hb : But m w w')
    (hm : ∀ k ∈ m, (∀ tv fv, w.heap[k]? ≠ some (InsO tv fv)) ∧ (∀ c, w.heap[k]? ≠ some (.cells c 9 (0, 0))) ∧ (∀ c, w.heap[k]? ≠ some (.cells c 45 (0, 0))) ∧ (∀ s i, w.heap[k]? ≠ some (LO s i))) : In z b w' I ps fs := by
  obtain ⟨tv, fv, hI, ht, hf⟩ := h.ins
  refine ⟨h.zb, Nat.le_trans h.bw hb.size, h.bI, ⟨tv, fv, ?_, ownsRow_but ht hb (fun g c hg => (hm g hg).2.1 c), ownsRow_but hf hb (fun g c hg => (hm g hg).2.2.1 c)⟩, fun f hf' => ?_⟩
  · rw [hb.block I (blk_lt hI) (fun c => (hm I c).1 tv fv hI)]; exact hI
  · have hl := h.lits f hf'
    rw [hb.block f.lb (blk_lt hl) (fun c => (hm _ c).2.2.2 _ _ hl)]; exact hl

/-- The parser's own steps leave the selector as it is. -/
theorem In.keepP {z : Pz} {b : Nat} {w w' : World} {I i : Nat} {d : Int} {ps : List ByteArray} {fs : List Fl} (h : In z b w I ps fs) (hs : St z w i d) {m : List Nat} (hm : ∀ k ∈ m, k = z.P) (hb : But m w w') : In z b w' I ps fs :=
  h.keep hb fun k hk => by rw [hm k hk, hs.par]; simp [PO, InsO]

/-- What the append onto the type's parts leaves of the selector's block. -/
theorem type_grown {b : Nat} {w w' : World} {I : Nat} {tv fv : Value} {n : Nat} {xs : List Value} (hI : w.heap[I]? = some (InsO tv fv)) (ht : w.ownsRow b 9 1 tv n xs) (hg : w.grownBy w' tv.ownBlock) : w'.heap[I]? = some (InsO tv fv) := by
  rw [hg.block I (blk_lt hI) (fun e => by
    obtain ⟨c, hc, _⟩ := ownsRow_own ht I e.symm
    rw [hI] at hc; simp [InsO] at hc)]
  exact hI

theorem grown_but {b : Nat} {e : TypeId} {size : Nat} {w w' : World} {v : Value} {n : Nat} {xs : List Value} (ht : w.ownsRow b e size v n xs) (hg : w.grownBy w' v.ownBlock) : ∃ m, But m w w' ∧ ∀ k ∈ m, b ≤ k ∧ ∃ c, w.heap[k]? = some (.cells c e (0, 0)) := by
  cases hv : v.ownBlock with
  | none => exact ⟨[], (But.refl [] w).grown hg (fun k e => by rw [hv] at e; cases e), by simp⟩
  | some k =>
    obtain ⟨c, hc, hbk⟩ := ownsRow_own ht k hv
    exact ⟨[k], (But.refl [k] w).grown hg (fun k' e => by rw [hv] at e; cases e; simp), by simpa using ⟨hbk, c, hc⟩⟩

/-- 'inst.Type = append(inst.Type, p)' done. -/
theorem in_type {z : Pz} {b : Nat} {w w1 w2 w3 : World} {I i : Nat} {d : Int} {ps : List ByteArray} {fs : List Fl} {p : ByteArray} {tv fv v' : Value} {o : Obj} (hs : St z w2 i d) (hin : In z b w2 I ps fs)
    (hI : w2.heap[I]? = some (InsO tv fv)) (ht : w2.ownsRow b 9 1 tv ps.length (ps.map Value.string)) (hf : w2.ownsRow b 45 2 fv fs.length (flCells fs))
    (hown : w3.ownsRow b 9 1 v' (ps.length + 1) (ps.map Value.string ++ [.string p])) (hg : (w2.alloc o).grownBy w3 tv.ownBlock) (hw : But [z.P] w w2) (hbw : w.heap.size ≤ b) (he : w1 = w3.setCell ⟨I, 0, none⟩ v') :
    St z w1 i d ∧ In z b w1 I (ps ++ [p]) fs ∧ But [z.P] w w1 := by
  subst he
  obtain ⟨m, hm, hk⟩ := grown_but (ht.alloc o) hg
  have ha := (But.refl [] w2).alloc o
  have hs2 := hs.keep ha (by simp) (by simp) (by simp)
  have hin2 := hin.keepP hs (m := []) (by simp) ha
  have hI2 := blk_alloc hI o
  have hzb := hin.zb
  have hs3 : St z w3 i d := hs2.keep hm (fun k c => by have := (hk k c).1; omega)
    (fun c => by obtain ⟨cur, hc, _⟩ := hs2.tok; obtain ⟨_, c', h2⟩ := hk _ c; rw [hc] at h2; simp at h2)
    (fun c => by obtain ⟨_, c', h2⟩ := hk _ c; rw [hs2.par] at h2; simp [PO] at h2)
  have hI3 : w3.heap[I]? = some (InsO tv fv) := type_grown hI2 (ht.alloc o) hg
  have hf3 : w3.ownsRow b 45 2 fv fs.length (flCells fs) := ownsRow_but (hf.alloc o) hm (fun g c hgm e => by obtain ⟨_, c', h2⟩ := hk g hgm; rw [e] at h2; simp at h2)
  have hl3 : ∀ f ∈ fs, w3.heap[f.lb]? = some (LO f.vl f.ps) := fun f hf' => by
    have hl := hin2.lits f hf'
    rw [hm.block f.lb (blk_lt hl) (fun c => by obtain ⟨_, c', h2⟩ := hk _ c; rw [hl] at h2; simp at h2)]; exact hl
  have hset := (But.refl [I] w3).set (p := ⟨I, 0, none⟩) (by simp) v'
  have hbI := hin.bI
  have hset' := hs3.keep hset (by simpa using Nat.le_trans hzb hbI) (by
      simp only [List.mem_singleton]; intro e
      obtain ⟨cur, hc, _⟩ := hs3.tok; rw [e, hI3] at hc; simp [InsO] at hc) (by
      simp only [List.mem_singleton]; intro e
      have := hs3.par; rw [e, hI3] at this; simp [InsO, PO] at this)
  refine ⟨hset', ⟨hzb, Nat.le_trans hin2.bw (Nat.le_trans hm.size hset.size), hbI, ⟨v', fv, ?_, ?_, ?_⟩, fun f hf' => ?_⟩, ?_⟩
  · rw [InsO] at hI3; rw [blk_set hI3]; rfl
  · have := ownsRow_but hown hset (fun g c hgm => by rw [List.mem_singleton.1 hgm, hI3]; simp [InsO])
    simpa using this
  · exact ownsRow_but hf3 hset (fun g c hgm => by rw [List.mem_singleton.1 hgm, hI3]; simp [InsO])
  · have hl := hl3 f hf'
    rw [hset.block f.lb (blk_lt hl) (fun c => by rw [← List.mem_singleton.1 c, hl] at hI3; simp [InsO] at hI3)]; exact hl
  · have h1 := hw.alloc o
    have h2 : But [z.P] w w3 := h1.grown hg (fun k e => by
      obtain ⟨c, hc, hbk⟩ := ownsRow_own (ht.alloc o) k e
      exact Or.inr (by omega))
    exact h2.setNew (p := ⟨I, 0, none⟩) (by show w.heap.size ≤ I; omega) v'

/-- 'inst.Fields = append(inst.Fields, Field{..})' done. -/
theorem in_field {z : Pz} {b : Nat} {w w1 w2 w3 : World} {I i : Nat} {d : Int} {ps : List ByteArray} {fs : List Fl} {f : Fl} {tv fv v' : Value} {o : Obj} (hs : St z w2 i d) (hin : In z b w2 I ps fs)
    (hI : w2.heap[I]? = some (InsO tv fv)) (ht : w2.ownsRow b 9 1 tv ps.length (ps.map Value.string)) (hf : w2.ownsRow b 45 2 fv fs.length (flCells fs)) (hfl : w2.heap[f.lb]? = some (LO f.vl f.ps))
    (hown : w3.ownsRow b 45 2 v' (fs.length + 1) (flCells fs ++ [.string f.nm, .iface 46 (.pointer (some ⟨f.lb, 0, none⟩))])) (hg : (w2.alloc o).grownBy w3 fv.ownBlock) (hw : But [z.P] w w2) (hbw : w.heap.size ≤ b) (he : w1 = w3.setCell ⟨I, 1, none⟩ v') :
    St z w1 i d ∧ In z b w1 I ps (fs ++ [f]) ∧ But [z.P] w w1 := by
  subst he
  obtain ⟨m, hm, hk⟩ := grown_but (hf.alloc o) hg
  have ha := (But.refl [] w2).alloc o
  have hs2 := hs.keep ha (by simp) (by simp) (by simp)
  have hin2 := hin.keepP hs (m := []) (by simp) ha
  have hI2 := blk_alloc hI o
  have hzb := hin.zb
  have hs3 : St z w3 i d := hs2.keep hm (fun k c => by have := (hk k c).1; omega)
    (fun c => by obtain ⟨cur, hc, _⟩ := hs2.tok; obtain ⟨_, c', h2⟩ := hk _ c; rw [hc] at h2; simp at h2)
    (fun c => by obtain ⟨_, c', h2⟩ := hk _ c; rw [hs2.par] at h2; simp [PO] at h2)
  have hI3 : w3.heap[I]? = some (InsO tv fv) := by
    rw [hm.block I (blk_lt hI2) (fun c => by obtain ⟨_, c', h2⟩ := hk _ c; rw [hI2] at h2; simp [InsO] at h2)]; exact hI2
  have ht3 : w3.ownsRow b 9 1 tv ps.length (ps.map Value.string) := ownsRow_but (ht.alloc o) hm (fun g c hgm e => by obtain ⟨_, c', h2⟩ := hk g hgm; rw [e] at h2; simp at h2)
  have hl2 : ∀ f' ∈ fs ++ [f], (w2.alloc o).heap[f'.lb]? = some (LO f'.vl f'.ps) := fun f' hf' => by
    rcases List.mem_append.1 hf' with h' | h'
    · exact hin2.lits f' h'
    · rw [List.mem_singleton.1 h']; exact blk_alloc hfl o
  have hl3 : ∀ f' ∈ fs ++ [f], w3.heap[f'.lb]? = some (LO f'.vl f'.ps) := fun f' hf' => by
    have hl := hl2 f' hf'
    rw [hm.block f'.lb (blk_lt hl) (fun c => by obtain ⟨_, c', h2⟩ := hk _ c; rw [hl] at h2; simp at h2)]; exact hl
  have hset := (But.refl [I] w3).set (p := ⟨I, 1, none⟩) (by simp) v'
  have hbI := hin.bI
  have hset' := hs3.keep hset (by simpa using Nat.le_trans hzb hbI) (by
      simp only [List.mem_singleton]; intro e
      obtain ⟨cur, hc, _⟩ := hs3.tok; rw [e, hI3] at hc; simp [InsO] at hc) (by
      simp only [List.mem_singleton]; intro e
      have := hs3.par; rw [e, hI3] at this; simp [InsO, PO] at this)
  refine ⟨hset', ⟨hzb, Nat.le_trans hin2.bw (Nat.le_trans hm.size hset.size), hbI, ⟨tv, v', ?_, ?_, ?_⟩, fun f' hf' => ?_⟩, ?_⟩
  · rw [InsO] at hI3; rw [blk_set hI3]; rfl
  · exact ownsRow_but ht3 hset (fun g c hgm => by rw [List.mem_singleton.1 hgm, hI3]; simp [InsO])
  · have := ownsRow_but hown hset (fun g c hgm => by rw [List.mem_singleton.1 hgm, hI3]; simp [InsO])
    simpa [flCells] using this
  · have hl := hl3 f' hf'
    rw [hset.block f'.lb (blk_lt hl) (fun c => by rw [← List.mem_singleton.1 c, hl] at hI3; simp [InsO] at hI3)]; exact hl
  · have h1 := hw.alloc o
    have h2 : But [z.P] w w3 := h1.grown hg (fun k e => by
      obtain ⟨c, hc, hbk⟩ := ownsRow_own (hf.alloc o) k e
      exact Or.inr (by omega))
    exact h2.setNew (p := ⟨I, 1, none⟩) (by show w.heap.size ≤ I; omega) v'
end Go.Proofs.YbulkeqoFmt
