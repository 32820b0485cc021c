/-
  New, owner, the closure, add, walked.
-/
import Derived.Test.YbulkeuwFmtBase
import Derived.WalkLawsBesides
import Derived.WalkSpells
import Derived.RegionTactic
import Derived.LaidEqlPtr
import Derived.BigQuiet
import Derived.Deep.QuietTactic
import Derived.Deep.LoopGhost
import Derived.Deep.RegionLaw
import Derived.Deep.RegionHeld
namespace Go.Proofs.YbulkeuwFmt
open Go.RowKit

theorem new_any (w : World) : Calls Ybaf.prog 4 #[.slice none 0 0] w fun e w' => e = .returned (.pointer (some ⟨w.heap.size + 1, 0, none⟩)) ∧ w' = (w.alloc (CO (.slice none 0 0) 0)).alloc (.cells #[.pointer (some ⟨w.heap.size, 0, none⟩), .pointer none] 28 (0, 0)) := by
  go_enter Ybaf.func4, Ybaf.ntmps4
  go_wp2
  go_loopg [12] 0 (fun k s12 wr => k = 0 ∧ s12 = .int .i64 0 ∧ wr = (w.alloc (CO (.slice none 0 0) 0)).alloc (.cells #[.pointer (some ⟨w.heap.size, 0, none⟩), .pointer none] 28 (0, 0)))
  case atStart => exact ⟨rfl, rfl, rfl⟩
  case round =>
    obtain ⟨rfl, rfl, rfl⟩ := hrel
    go_wp2
    go_ret
    exact ⟨rfl, rfl⟩

theorem fn_eql (first cap : Array Value) (f : Fn) (w : World) : (binOp .eql 37 (.func f first cap) .nilFunc).run Ybaf.prog w = .ok (.bool false) w := by kernel_rfl

theorem owner_none (w : World) (H K : Nat) (ov : Value) (m : Int) (nm : ByteArray) (f : Fn) (first cap : Array Value) (hH : w.heap[H]? = some (.cells #[.pointer (some ⟨K, 0, none⟩), .pointer none] 28 (0, 0))) (hK : w.heap[K]? = some (CO ov m)) :
    Calls Ybaf.prog 13 #[.pointer (some ⟨H, 0, none⟩), .string nm, .func f first cap] w fun e w' => e = .returned (.int .i32 (-1)) ∧ w' = w := by
  have h0 : w.cell? ⟨H, 0, none⟩ = some (.pointer (some ⟨K, 0, none⟩)) := blk_cell (k := 0) hH
  have h1 : w.cell? ⟨H, 1, none⟩ = some (.pointer none) := blk_cell (k := 1) hH
  have h2 : w.cell? ⟨K, 16, none⟩ = some (.bool false) := blk_cell (k := 16) hK
  have hn := fn_eql
  go_enter Ybaf.func13, Ybaf.ntmps13
  go_wp2
  go_ret
  exact ⟨rfl, rfl⟩
theorem owner_some (w : World) (H K C : Nat) (ov : Value) (m ix : Int) (nm : ByteArray) (f : Fn) (first cap : Array Value) (hH : w.heap[H]? = some (.cells #[.pointer (some ⟨K, 0, none⟩), .pointer (some ⟨C, 0, none⟩)] 28 (0, 0))) (hK : w.heap[K]? = some (CO ov m)) (hC : w.cell? ⟨C, 3, none⟩ = some (.int .i32 ix)) :
    Calls Ybaf.prog 13 #[.pointer (some ⟨H, 0, none⟩), .string nm, .func f first cap] w fun e w' => e = .returned (.int .i32 ix) ∧ w' = w := by
  have h0 : w.cell? ⟨H, 0, none⟩ = some (.pointer (some ⟨K, 0, none⟩)) := blk_cell (k := 0) hH
  have h1 : w.cell? ⟨H, 1, none⟩ = some (.pointer (some ⟨C, 0, none⟩)) := blk_cell (k := 1) hH
  have h2 : w.cell? ⟨K, 16, none⟩ = some (.bool false) := blk_cell (k := 16) hK
  have hn := fn_eql
  go_enter Ybaf.func13, Ybaf.ntmps13
  go_wp2
  go_ret
  exact ⟨rfl, rfl⟩

theorem info69 : (Ybaf.prog.info? 69).map (fun i => (i.zero, i.size, i.bytes)) = some (some (.agg #[.int .i32 0, .nilFunc, .bool false]), 3, 24) := by kernel_rfl
theorem info64 : (Ybaf.prog.info? 64).map (fun i => (i.zero, i.size, i.bytes)) = some (some (.slice none 0 0), 1, 24) := by kernel_rfl
theorem info3 : (Ybaf.prog.info? 3).map (fun i => (i.zero, i.size, i.bytes)) = some (some (.int .i64 0), 1, 8) := by kernel_rfl

/-- append onto a row of the call's own, as one step of a region that draws. -/
theorem step_append_own {P : Program} {ops : Array Oper} {o : Oper} {a : Act} {w : World} {K : Act → World → Prop} {Q : Exit → Act → World → Prop} {E : Prop}
    (hg : o.guard = none) (s x : Operand) (t : TypeId) (hop : o.op = Op.call { callee := Callee.builtin Builtin.append, args := #[s, x], argTypes := #[t, t] })
    (e : TypeId) (i : TypeInfo) (z : Value) (size bytes : Nat) (h1 : P.underlying t = some (.slice e)) (h2 : P.info? e = some i) (h3 : i.zero = some z) (h4 : i.size = size) (h5 : i.bytes = bytes) (h6 : z.cells.size = size) (h7 : 0 < size)
    (base : Nat) (v : Value) (n : Nat) (xs : List Value) (hs : a.eval s = v) (hown : w.ownsRow base e size v n xs)
    (ad : Addr) (m c : Nat) (news : List Value) (hx : a.eval x = .slice (some ad) m c) (hn : news.length = m * size) (hc : ∀ j u, news[j]? = some u → w.cell? (ad.add j) = some u) (h1c : ∀ u ∈ news, u.oneCell' = true)
    (b1 : n + m ≤ maxLen) (b2 : (n + m) * bytes ≤ 140737488355328) (hb : base ≤ w.heap.size)
    (hK : ∀ v' w', w'.ownsRow base e size v' (n + m) (xs ++ news) → w.grownBy w' v.ownBlock → K (a.put o.dst v') w') :
    if Region.wanted o (yielded ops a.tmps) = true then Oper.wp P o a w K Q else E := by
  have hw : Region.wanted o (yielded ops a.tmps) = true := by simp [Region.wanted, hg]
  rw [if_pos hw]
  obtain ⟨v', w', hrun, r1, r2, _⟩ := run_append_own (P := P) w base t o.type e i z size bytes h1 h2 h3 h4 h5 h6 h7 v n xs hown ad m c news hn hc h1c b1 b2 hb
  unfold Oper.wp
  simp [execOp, hop, resolve, invoke, builtin, hs, hx, hrun, Result.andThen]
  exact hK v' w' r1 r2
/-- .. within its room. -/
theorem step_append_fits {P : Program} {ops : Array Oper} {o : Oper} {a : Act} {w : World} {K : Act → World → Prop} {Q : Exit → Act → World → Prop} {E : Prop}
    (hg : o.guard = none) (s x : Operand) (t : TypeId) (hop : o.op = Op.call { callee := Callee.builtin Builtin.append, args := #[s, x], argTypes := #[t, t] })
    (e : TypeId) (i : TypeInfo) (size : Nat) (h1 : P.underlying t = some (.slice e)) (h2 : P.info? e = some i) (h4 : i.size = size)
    (base g k cap : Nat) (xs : List Value) (hs : a.eval s = .slice (some ⟨g, 0, none⟩) k cap) (hown : w.ownsRow base e size (.slice (some ⟨g, 0, none⟩) k cap) k xs)
    (ad : Addr) (m c : Nat) (news : List Value) (hx : a.eval x = .slice (some ad) m c) (hn : news.length = m * size) (hc : ∀ j u, news[j]? = some u → w.cell? (ad.add j) = some u) (h1c : ∀ u ∈ news, u.oneCell' = true)
    (b1 : k + m ≤ cap)
    (hK : ∀ w', w'.ownsRow base e size (.slice (some ⟨g, 0, none⟩) (k + m) cap) (k + m) (xs ++ news) → w.grownBy w' (some g) → K (a.put o.dst (.slice (some ⟨g, 0, none⟩) (k + m) cap)) w') :
    if Region.wanted o (yielded ops a.tmps) = true then Oper.wp P o a w K Q else E := by
  have hw : Region.wanted o (yielded ops a.tmps) = true := by simp [Region.wanted, hg]
  rw [if_pos hw]
  obtain ⟨w', hrun, r1, r2⟩ := run_append_fits (P := P) w base t o.type e i size h1 h2 h4 g k cap xs hown ad m c news hn hc h1c b1
  unfold Oper.wp
  simp [execOp, hop, resolve, invoke, builtin, hs, hx, hrun, Result.andThen]
  exact hK w' r1 r2
/-- 'make([]T, 0, n)'. -/
theorem step_make_own {P : Program} {ops : Array Oper} {o : Oper} {a : Act} {w : World} {K : Act → World → Prop} {Q : Exit → Act → World → Prop} {E : Prop}
    (hg : o.guard = none) (l c : Operand) (t : TypeId) (hop : o.op = Op.makeSlice t l c)
    (base : Nat) (e : TypeId) (i : TypeInfo) (z : Value) (size : Nat) (h1 : P.underlying t = some (.slice e)) (h2 : P.info? e = some i) (h3 : i.zero = some z) (h4 : i.size = size)
    (kl kc : IntKind) (n : Nat) (hl : a.eval l = .int kl 0) (hc : a.eval c = .int kc (n : Int)) (b2 : i.bytes * n ≤ 281474976710656) (b3 : n ≤ maxLen) (b4 : base ≤ w.heap.size)
    (hK : ∀ w', w'.ownsRow base e size (.slice (some ⟨w.heap.size, 0, none⟩) 0 n) 0 [] → w.grownBy w' none → K (a.put o.dst (.slice (some ⟨w.heap.size, 0, none⟩) 0 n)) w') :
    if Region.wanted o (yielded ops a.tmps) = true then Oper.wp P o a w K Q else E := by
  have hw : Region.wanted o (yielded ops a.tmps) = true := by simp [Region.wanted, hg]
  rw [if_pos hw]
  obtain ⟨w', hrun, r1, r2⟩ := run_make_own (P := P) w base t e i z size h1 h2 h3 h4 kl kc n b2 b3 b4
  unfold Oper.wp
  simp [execOp, hop, hl, hc, hrun, Result.andThen]
  exact hK w' r1 r2
end Go.Proofs.YbulkeuwFmt
