/-
  What both rows share: the listed map opened; the variables read again; the slices of strings opened.
-/
import Derived.Test.YbulkeqoFmtBase
import Derived.Test.YbulkeqoFmtTie
import Derived.ProofKit
import Derived.LaidMore
import Derived.OpenShut
import Derived.SliceStrings
import Derived.Stop.Joined
import Derived.Stop.JoinedTold
import Derived.Deep.DeepWitnessRef
import Derived.SevenTiedAt
import Derived.WalkSmall
namespace Go.Proofs.YbulkeqoFmt
open Go.ChangeShapes Go.WideShapes Go.ChangeAt Go.WideMaps Go.WideElems Go.RowKit

theorem own : ownKnob Ybaf.prog.godebug = none := by kernel_rfl
theorem laidOut : laidOutB Ybaf.prog = true := by kernel_rfl
theorem cells9 : Ybaf.prog.cellsOf 9 = 1 := by kernel_rfl

/-- A named variable that can be read again. -/
def varOk (P : Program) (n : String) : Bool :=
  match P.globalNamed n with
  | some g => match (P.globals[g]?).map (·.type) with
    | some t => P.readableRec t && decide (t < P.types.size)
    | none => true
  | none => true

theorem vars_below {H : Type} {enc : TypeId × Value → H} {P : Program} (hl : laidOutB P = true) {W W' : World} (hb : Below W.heap.size W W') :
    ∀ (ns : List String) (gs : List (DataW H)) (q : List MemPlace), (ns.all (varOk P)) = true → DataW.TrodVars enc P W (fun _ => true) ns gs q → DataW.TrodVars enc P W' (fun b => decide (b < W.heap.size)) ns gs q := by
  intro ns
  induction ns with
  | nil => intro gs q _ h; cases gs with
    | nil => exact h
    | cons _ _ => exact h.elim
  | cons n ns ih =>
    intro gs q hok h
    cases gs with
    | nil => exact h.elim
    | cons d ds =>
      have hlt := DataW.TrodVars.lt h
      obtain ⟨g, t, cs, fuel, p, q', hg, ht, hv, hd, hrest, rfl⟩ := h
      simp only [List.all_cons, Bool.and_eq_true] at hok
      have h1 := hok.1
      simp only [varOk, hg, ht, Bool.and_eq_true, decide_eq_true_eq] at h1
      have hgB : g < W.heap.size := by
        unfold World.var? at hv
        simp only [hg, Option.bind_some] at hv
        rcases Nat.lt_or_ge g W.heap.size with h | h
        · exact h
        · simp [Array.getElem?_eq_none h] at hv
      refine ⟨g, t, cs, fuel, p, q', hg, ht, var?_below hb hg hgB hv, ?_, ih ds q' hok.2 hrest, rfl⟩
      exact DataW.trod_stays (kids_book hl h1.1) (book_sized h1.1) (fun h => by cases h) ⟨h1.2, book_self t⟩ hd (fun x hx => hb.same (hlt x (by simp [hx]))) (fun x hx => by simpa using hlt x (by simp [hx]))

/-! ### The listed map -/
abbrev laid2 : List (String × DataW Unit) := Rows.lawS0274AFieldsRow.laid
theorem gI : Ybaf.prog.globalNamed (laid2.map (·.1))[0]! = some 0 := by kernel_rfl
theorem tI : (Ybaf.prog.globals[0]?).map (·.type) = some 70 := by kernel_rfl
theorem keyLaw : KeyLaw Ybaf.prog 9 := string_law Ybaf.underlying9

theorem door_met (os : Os) (args : Array Value) : laidMetH Ybaf.prog laid2 ((World.doorLaid Ybaf.prog 229 os).forCall (fun _ _ => 0) ⟨#[], args, []⟩).memory :=
  laidMetH_of_parts3 (fuel := 8) (laidMet_of_run' 8 (by kernel_rfl) (by kernel_rfl)) (by kernel_rfl) (by kernel_rfl)

set_option maxRecDepth 100000 in
theorem of_laid {W : World} (h : laidMetH Ybaf.prog laid2 W) : ∃ bm o, W.cell? ⟨0, 0, none⟩ = some (.map (some bm)) ∧ W.heap[bm]? = some o ∧ NoKey bm o ⟨#[44]⟩ ∧ NoKey bm o ⟨#[125]⟩ ∧ NoKey bm o ⟨#[]⟩ := by
  rw [MakeChecks.laidMetH_plain _ _ _ (by kernel_rfl)] at h
  obtain ⟨ps, ⟨g0, t0, cs0, f0, p0, q0, hg0, ht0, hv0, hd0, _, _⟩, _, _⟩ := h
  obtain rfl := Option.some.inj (gI.symm.trans hg0)
  obtain rfl := Option.some.inj (tI.symm.trans ht0)
  rcases open_map Ybaf.underlying70 hd0 with ⟨_, hx⟩ | ⟨bm, es, clock, m, rfl, hcs, hb, _, F, hx⟩
  · simp [Rows.laid_example_com_pathfold_internal_syntax_infixPrec] at hx
  simp only [Prod.mk.injEq] at hx
  have hcell : W.cell? ⟨0, 0, none⟩ = some (.map (some bm)) := by
    have := World.var?_cell hg0 hv0 0
    rw [Array.eq_one_of_toList hcs] at this
    simpa using this
  have hno : ∀ s : ByteArray, (Rows.laid_example_com_pathfold_internal_syntax_infixPrec (H := Unit)).atKey (.string s.data.toList) .nil = .nil → s.size ≤ maxLen → NoKey bm (.map es clock) s := by
    intro s hs hsz w hw
    have zero : (zeroValue 3).run Ybaf.prog w = .ok (.int .i64 0) w := by kernel_rfl
    rcases fit_lookup_ok (w := w) keyLaw Ybaf.underlying70 zero hw F (keyOf_string_mk (s := s) Ybaf.underlying9 hsz) with ⟨hrun, _⟩ | ⟨v, y, _, hRv, hat, _⟩
    · exact hrun
    · obtain ⟨r, rfl, rfl, _⟩ := elemAt_int Ybaf.underlying3 hRv
      have := hat .nil
      rw [← hx.1, hs] at this
      cases this
  exact ⟨bm, _, hcell, hb, hno _ rfl (by decide), hno _ rfl (by decide), hno _ rfl (by decide)⟩
end Go.Proofs.YbulkeqoFmt
