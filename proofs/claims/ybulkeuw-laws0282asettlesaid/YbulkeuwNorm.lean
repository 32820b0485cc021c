/-
  A walk in a frame that is an ordinary call's: there a select can be carried out. No Go text here.
-/
import Derived.Test.YbulkeuwRows
import Derived.WalkKit
import Derived.Below
import Derived.Conc.LoneSelect
import Derived.Conc.SmallLaws
namespace Go.Proofs.Ybulkeuw
open Go.RowKit Go.Conc

/-- The code c, from a and w, comes to Q, in every frame of an ordinary call. -/
def WpN (P : Program) (c : Code) (Q : Exit → Act → World → Prop) (a : Act) (w : World) : Prop :=
  ∀ (b : Frame) (k : List Item) (cs : List Frame), b.kind ≠ .early → ∃ e a' w', Q e a' w' ∧ Arrives P (lone (b.at a (.code c :: k)) cs w) b k cs e a' w'

section
variable {P : Program} {Q : Exit → Act → World → Prop} {a : Act} {w : World}

theorem wpN_of {c : Code} (h : c.wp P Q a w) : WpN P c Q a w := fun b k cs _ => h b k cs

theorem wpN_seq {x y : Code} (h : WpN P x (Exit.then (WpN P y Q) Q) a w) : WpN P (Code.seq x y) Q a w := by
  intro b k cs hb
  obtain ⟨e, a₁, w₁, hq, harr⟩ := h b (.code y :: k) cs hb
  cases e with
  | normal =>
    obtain ⟨e₂, a₂, w₂, hq₂, harr₂⟩ := hq b k cs hb
    exact ⟨e₂, a₂, w₂, hq₂, .of_steps (.head step_seq harr) harr₂⟩
  | exit id => exact ⟨_, a₁, w₁, hq, .of_steps (.one step_seq) (.pass (x := .code y) rfl (fun _ _ => .inl (by simp)) harr)⟩
  | goto l => exact ⟨_, a₁, w₁, hq, .of_steps (.one step_seq) (.pass (x := .code y) rfl (fun _ _ => .inl (by simp)) harr)⟩
  | ret => exact ⟨_, a₁, w₁, hq, .of_steps (.one step_seq) (.pass (x := .code y) rfl (fun _ _ => .inl (by simp)) harr)⟩
  | panic ch => exact ⟨_, a₁, w₁, hq, .of_steps (.one step_seq) (.pass (x := .code y) rfl (fun _ _ => .inl (by simp)) harr)⟩
  | outgrown => exact ⟨_, a₁, w₁, hq, .of_steps (.one step_seq) (.pass (x := .code y) rfl (fun _ _ => .inl (by simp)) harr)⟩

/-- The first part by the kit's own walk, whatever follows. -/
theorem wpN_seq_k {x y : Code} (h : ∀ K : Act → World → Prop, (∀ a w, WpN P y Q a w → K a w) → x.wp P (Exit.then K Q) a w) : WpN P (Code.seq x y) Q a w :=
  wpN_seq (wpN_of (h _ fun _ _ h => h))

theorem wpN_cond_true {c : Operand} {x y : Code} (hc : a.eval c = .bool true) (h : WpN P x Q a w) : WpN P (Code.cond c x y) Q a w :=
  fun b k cs hb => let ⟨e, a', w', q, r⟩ := h b k cs hb; ⟨e, a', w', q, .of_steps (.one (step_cond hc)) (by simpa using r)⟩

/-- A select of one receive with a default, the channel closed and its buffer empty: the first operation of its region. -/
theorem wpN_select_shut {id : Nat} {ops : Array Oper} {o : Oper} {l : List Oper} {c cap s r : Nat} {z : Value} {tm : Bool} (hl : ops.toList = o :: l) (hw : Region.wanted o (yielded ops a.tmps) = true)
    (hx : (execOp a.eval o).run P w = .ok (.comm #[rcase c z] false .select) w) (hc : w.heap[c]? = some (.chan cap #[] true s r tm))
    (h : wpList P ops Q l (a.put o.dst (.tuple #[goInt 0, .bool false, z])) w) : WpN P (Code.region id ops false) Q a w := by
  intro b k cs hb
  have ho : ops[0]? = some o := by rw [← Array.getElem?_toList, hl]; rfl
  have hr : List.range ops.size = 0 :: List.range' 1 l.length := by rw [List.range_eq_range', ← Array.length_toList, hl, List.length_cons, List.range'_succ]
  rw [← wpOps_eq_wpList l 1 (fun j => by rw [← Array.getElem?_toList, hl, Nat.add_comm, List.getElem?_cons_succ])] at h
  obtain ⟨e, a', w', q, arr⟩ := wp_ops (List.range' 1 l.length) _ w h b k cs
  refine ⟨e, a', w', q, .of_steps (.one step_region) (.of_steps (.one ?_) arr)⟩
  rw [hr, lone_eq_solo]
  have hs := step_lone_select_recv_shut (stepG_comm (P := P) (main := true) (b := b) (k := k) (cs := cs) (rest := List.range' 1 l.length) ho hw hb hx) hc
  rw [Frame.finish_at, ho] at hs
  exact hs
end

theorem calls_of_wpN {P : Program} {f : FuncId} {fn : Func} {c : Code} {args : Array Value} {w : World} {R : Ending → World → Prop}
    (hf : P.funcs[f]? = some fn) (hb : fn.body = some c)
    (h : WpN P c (bodyPost P fn R) { tmps := args ++ Array.replicate (fn.ntmps - args.size) undef, defers := [] } w) :
    Calls P f args w R := by
  intro cs
  let b : Frame := { (default : Frame) with fn := f, kind := .normal }
  have henter : Frame.enter P f args .normal =
      b.at { tmps := args ++ Array.replicate (fn.ntmps - args.size) undef, defers := [] } [.code c] := by
    simp [Frame.enter, Frame.at, hf, hb, b]
  obtain ⟨e, a', w', hq, harr⟩ := h b [] cs (by simp [b])
  rw [← henter] at harr
  cases e with
  | normal =>
    obtain ⟨hd, v, hr, hR⟩ := hq
    exact ⟨.returned v, w', _, hR, Steps.trans harr (.one step_end), rfl, rfl, hd, rfl, fn, hf, hr⟩
  | ret =>
    obtain ⟨hd, v, hr, hR⟩ := hq
    obtain ⟨todo, hs⟩ := harr
    exact ⟨.returned v, w', _, hR, hs, rfl, rfl, hd, rfl, fn, hf, hr⟩
  | panic chain =>
    obtain ⟨hd, hR⟩ := hq
    obtain ⟨todo, hs⟩ := harr
    exact ⟨.panicked chain, w', _, hR, hs, rfl, rfl, hd, fn, hf⟩
  | exit id => exact hq.elim
  | goto l => exact hq.elim
  | outgrown => exact ⟨.outgrown, w', b, hq, harr.resolve_left (by simp [b]), rfl, trivial⟩
end Go.Proofs.Ybulkeuw
