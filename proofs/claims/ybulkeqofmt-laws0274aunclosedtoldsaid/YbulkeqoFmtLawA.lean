/-
  What both laws share: the parts, the count, the tokens, the parser as it is made.
-/
import Derived.Test.YbulkeqoFmtShape
import Derived.Test.YbulkeqoFmtErr
namespace Go.Proofs.YbulkeqoFmt
open Go.RowKit

/-- A slice of strings, as the walk reads it. -/
def Strs (w : World) (a : Option Addr) (ss : List ByteArray) : Prop := ∀ (j : Nat) (s : ByteArray), ss[j]? = some s → ∃ b o, a = some ⟨b, o, none⟩ ∧ w.cell? ⟨b, o + j, none⟩ = some (.string s)

theorem Strs.but {w w' : World} {a : Option Addr} {ss : List ByteArray} (h : Strs w a ss) (hb : But [] w w') : Strs w' a ss := fun j s hj => by
  obtain ⟨b, o, e, hc⟩ := h j s hj
  exact ⟨b, o, e, by rw [hb.cell (World.block_lt_of_cell? _ _ hc) (by simp)]; exact hc⟩

/-- zzs0274aparts. -/
theorem parts_any (w : World) (a : Option Addr) (cap : Nat) (ss : List ByteArray) (h : Strs w a ss) (hl : ss.length ≤ 300) :
    Calls Ybaf.prog 5 #[.slice a ss.length cap] w fun e w' => ∃ (pb po pc : Nat) (t0 : ByteArray) (rest : List ByteArray), e = .returned (.slice (some ⟨pb, po, none⟩) (rest.length + 1) pc) ∧ rest.length ≤ 300 ∧ w'.cell? ⟨pb, po, none⟩ = some (.string t0) ∧ (∀ j p, rest[j]? = some p → w'.cell? ⟨pb, po + (j + 1), none⟩ = some (.string p)) ∧ But [] w w' := by
  match ss, h, hl with
  | [], _, _ =>
    go_enter Ybaf.func5, Ybaf.ntmps5
    go_wp2
    go_ret
    refine ⟨w.heap.size, 0, 1, ⟨#[84]⟩, [], rfl, by simp, ?_, by simp, (But.refl [] w).alloc _⟩
    rw [blk_cell (blk_new w _)]; rfl
  | t0 :: rest, h, hl =>
    obtain ⟨b, o, rfl, h0⟩ := h 0 t0 rfl
    have hn : (((rest.length + 1 : Nat) : Int) == 0) = false := by simp; omega
    go_enter Ybaf.func5, Ybaf.ntmps5
    go_wp2
    go_ret
    refine ⟨b, o, cap, t0, rest, rfl, by simp at hl; omega, by simpa using h0, fun j p hj => ?_, But.refl [] w⟩
    obtain ⟨b', o', e, hc⟩ := h (j + 1) p (by simpa using hj)
    cases e
    exact hc

/-- zzs0274an. -/
theorem n_any (w : World) (na va : Option Addr) (nl vl nc vc m : Nat) (hz : m = min nl vl) :
    Calls Ybaf.prog 6 #[.slice na nl nc, .slice va vl vc] w fun e w' => e = .returned (.int .i64 m) ∧ w' = w := by
  by_cases h : vl < nl
  · obtain rfl : m = vl := by omega
    clear hz
    go_enter Ybaf.func6, Ybaf.ntmps6
    go_wp2
    go_ret
    exact ⟨rfl, rfl⟩
  · obtain rfl : m = nl := by omega
    clear hz
    go_enter Ybaf.func6, Ybaf.ntmps6
    go_wp2
    go_ret
    exact ⟨rfl, rfl⟩

/-- The pairs' cells. -/
theorem zip_cells {w : World} {na va : Option Addr} {ns vs : List ByteArray} (hn : Strs w na ns) (hv : Strs w va vs) :
    ∀ j q, (ns.zip vs)[j]? = some q → ∃ nb no vb vo, na = some ⟨nb, no, none⟩ ∧ w.cell? ⟨nb, no + j, none⟩ = some (.string q.1) ∧ va = some ⟨vb, vo, none⟩ ∧ w.cell? ⟨vb, vo + j, none⟩ = some (.string q.2) := by
  intro j q hq
  obtain ⟨h1, h2⟩ := List.getElem?_zip_eq_some.1 hq
  obtain ⟨nb, no, e1, c1⟩ := hn j _ h1
  obtain ⟨vb, vo, e2, c2⟩ := hv j _ h2
  exact ⟨nb, no, vb, vo, e1, c1, e2, c2⟩

/-- The parser as it is made. -/
theorem st_start {w0 w1 w : World} {bm : Nat} {o : Obj} {v : Value} {ts : List Tok} (hT : Tk w1.heap.size w v ts) (hB : Below w1.heap.size w1 w) (hb : But [] w0 w1) (hglob : w0.cell? ⟨0, 0, none⟩ = some (.map (some bm))) (hmap : w0.heap[bm]? = some o)
    (k1 : NoKey bm o ⟨#[44]⟩) (k2 : NoKey bm o ⟨#[125]⟩) (k3 : NoKey bm o ⟨#[]⟩) (hl : ts.length ≤ 4000) :
    ∃ z : Pz, z.ts = ts ∧ z.P = w.heap.size ∧ z.B = w1.heap.size ∧ v = .slice (some ⟨z.g, 0, none⟩) ts.length z.cap ∧ St z (w.alloc (.cells #[.string ⟨#[]⟩, v, .int .i64 1, .int .i64 0] 29)) 1 0 := by
  obtain ⟨g, c, hv, hbg, cur, hc, hat⟩ := tok_of hT
  have hbm : bm < w0.heap.size := blk_lt hmap
  have hs := hb.size
  refine ⟨⟨w1.heap.size, bm, w.heap.size, g, c, o, ts⟩, rfl, rfl, rfl, hv, ⟨by show 0 < w1.heap.size; omega, by show bm < w1.heap.size; omega, hB.size, hbg, by have := blk_lt hc; show g ≠ w.heap.size; omega, ?_, ⟨cur, blk_alloc hc _, hat⟩, ?_, ?_, k1, k2, k3, hl⟩⟩
  · rw [hv]; exact blk_new w _
  · have h0 : (0 : Nat) < w0.heap.size := by omega
    have e1 : w1.cell? ⟨0, 0, none⟩ = some (.map (some bm)) := by rw [hb.cell (p := ⟨0, 0, none⟩) h0 (by simp)]; exact hglob
    have e2 : w.cell? ⟨0, 0, none⟩ = some (.map (some bm)) := by rw [hB.cell (p := ⟨0, 0, none⟩) (by show 0 < w1.heap.size; omega)]; exact e1
    rw [World.cell?_alloc_past _ _ _ (by show 0 < w.heap.size; have := hB.size; omega)]
    exact e2
  · have e1 : w1.heap[bm]? = some o := by rw [hb.block bm hbm (by simp)]; exact hmap
    have e2 : w.heap[bm]? = some o := by rw [hB.block bm (by omega)]; exact e1
    exact blk_alloc e2 _

theorem row_cell {w : World} {b : Nat} {e : TypeId} {size n : Nat} {v : Value} {xs : List Value} (h : w.ownsRow b e size v n xs) {g c : Nat} (hv : v = .slice (some ⟨g, 0, none⟩) n c) : ∀ j u, xs[j]? = some u → w.cell? ⟨g, j, none⟩ = some u := by
  intro j u hj
  rcases h.2 with ⟨h1, _⟩ | ⟨g', cap, cur, h1, _, hh, _, _, _, ht⟩
  · rw [h1] at hv; cases hv
  · rw [h1] at hv
    cases hv
    rw [blk_cell hh]
    rw [← ht] at hj
    have hlt : j < n * size := by
      have := (List.getElem?_eq_some_iff.1 hj).1
      simp at this; omega
    rw [List.getElem?_take_of_lt hlt] at hj
    simpa using hj
end Go.Proofs.YbulkeqoFmt
