/-
  LawS0274AFields: the row's step, and the told and tied card.
-/
import Derived.Test.YbulkeqoFmtRowA
import Derived.Test.YbulkeqoFmtLawF
import Derived.Test.YbulkeqoFmtCards
import Derived.Test.YbulkeqoFmtTie
namespace Go.Proofs.YbulkeqoFmt.lawS0274AFields
open Go.ChangeShapes Go.WideShapes Go.ChangeAt Go.WideMaps Go.WideElems Go.RowKit
set_option linter.unusedVariables false

/-- A slice of strings, opened for the walk. -/
theorem strs_of {H : Type} {enc : TypeId × Value → H} {W : World} {a : Option Addr} {len cap : Nat} {d : DataW H} {p : List MemPlace} (h : DataW.Trod enc Ybaf.prog W 0 (fun _ => true) true 22 (.slice a len cap) d p) : ∃ L : List ByteArray, L.length = len ∧ Strs W a L := by
  obtain ⟨fuel, hf⟩ := h
  rcases open_strings Ybaf.underlying22 Ybaf.underlying9 cells9 hf with ⟨hcs, _⟩ | ⟨x, l, c, ss, hcs, _, hl, hm, hz, _, hcell, hws⟩
  · simp [Value.cells] at hcs
    obtain ⟨rfl, rfl, rfl⟩ := hcs
    exact ⟨[], rfl, fun j s hj => by simp at hj⟩
  · simp [Value.cells] at hcs
    obtain ⟨rfl, rfl, rfl⟩ := hcs
    simp only [if_true] at hz
    refine ⟨ss.take len, by rw [List.length_take]; omega, fun j s hj => ?_⟩
    have hlt : j < len := by
      have := (List.getElem?_eq_some_iff.1 hj).1
      rw [List.length_take] at this; omega
    rw [List.getElem?_take_of_lt hlt] at hj
    have hj2 : j < ss.length := (List.getElem?_eq_some_iff.1 hj).1
    have hc := hcell j (by omega)
    have e : ss.getD j ByteArray.empty = s := by simp [hj]
    rw [e] at hc
    obtain ⟨b, o, sp⟩ := x
    have h0 := hcell 0 (by omega)
    simp only [Addr.add_zero'] at h0
    cases sp with
    | none => exact ⟨b, o, rfl, by rw [← Addr.add_lit]; exact hc⟩
    | some q =>
      unfold World.cell? at h0
      split at h0 <;> simp_all

theorem two_of {H : Type} {enc : TypeId × Value → H} {P : Program} {W : World} {sp : Nat → Bool} {n0 n1 : String} {gs : List (DataW H)} {q : List MemPlace} (h : DataW.TrodVars enc P W sp [n0, n1] gs q) : ∃ g1 g2, gs = [g1, g2] := by
  match gs, h with
  | [], h => exact h.elim
  | [_], ⟨_, _, _, _, _, _, _, _, _, _, h, _⟩ => exact h.elim
  | [g1, g2], _ => exact ⟨g1, g2, rfl⟩
  | _ :: _ :: _ :: _, ⟨_, _, _, _, _, _, _, _, _, _, ⟨_, _, _, _, _, _, _, _, _, _, h, _⟩, _⟩ => exact h.elim

set_option maxRecDepth 100000 in
theorem lifted (os : Os) (started : os.Started) (H : Type) (enc : TypeId × Value → H) :
    ReturnsInTold none {} Ybaf.checked os 3 .any Input.okWide ((OpenSpec.ofChange Rows.lawS0274AFieldsSpec).preRow enc Ybaf.prog Ybaf.f3 [] false Rows.lawS0274AFieldsRow.laid) (fun F => ((OpenSpec.ofChange Rows.lawS0274AFieldsSpec).at F.told).post enc Ybaf.prog Ybaf.f3 false true false false) (aloneAtReturn Ybaf.prog) nothingAlways := by
  refine returnsInTold_of_row (C := Ybaf.checked) (s := OpenSpec.ofChange Rows.lawS0274AFieldsSpec) (by kernel_rfl) own started (by kernel_rfl) Ybaf.func3
    (OpenSpec.witness_stopped_atRef (enc := enc) (C := Ybaf.checked) false (World.doorLaid Ybaf.prog 229 os) #[.slice none 0 0, .slice none 0 0, .slice none 0 0] rfl (by kernel_rfl) (by kernel_rfl) (by kernel_rfl)
      (OpenSpec.preRow_of_B rfl 8 (by kernel_rfl) (by kernel_rfl) (door_met os _))) ?_
  intro F W base args ds gs before _ hF hval0 hW _ _ _ hL _
  obtain ⟨g1, g2, rfl⟩ : ∃ g1 g2, gs = [g1, g2] := by obtain ⟨_, _, _, hV0, _⟩ := hW; exact two_of hV0
  have hval : ∀ (j : Nat) t v, Ybaf.f3.params[j]? = some t → args[j]? = some v → Value.okWide Ybaf.prog W .any base t v := hval0
  have hW' := hW
  obtain ⟨p, q, hA0, hV, rfl, hfz, hnd⟩ := hW
  have hA : DataW.TrodAll enc Ybaf.prog W 0 (fun _ => true) true Ybaf.f3.params.toList args.toList ds p := hA0
  rw [Ybaf.params3] at hA hval
  obtain ⟨v0, vs0, d0, ds0, p0, q0, hargs, rfl, rfl, h0, r0⟩ := trodAll_cons hA
  obtain ⟨v1, vs1, d1, ds1, p1, q1, rfl, rfl, rfl, h1, r1⟩ := trodAll_cons r0
  obtain ⟨v2, vs2, d2, ds2, p2, q2, rfl, rfl, rfl, h2, r2⟩ := trodAll_cons r1
  obtain ⟨rfl, rfl, rfl⟩ := trodAll_nil r2
  obtain rfl : args = #[v0, v1, v2] := by cases args; simp_all
  obtain ⟨a0, len0, cap0, rfl⟩ := okWide_slice Ybaf.underlying22 (hval 0 22 v0 rfl rfl)
  obtain ⟨a1, len1, cap1, rfl⟩ := okWide_slice Ybaf.underlying22 (hval 1 22 v1 rfl rfl)
  obtain ⟨a2, len2, cap2, rfl⟩ := okWide_slice Ybaf.underlying22 (hval 2 22 v2 rfl rfl)
  have lt0 : ∀ x ∈ p0, x.block < W.heap.size := by obtain ⟨m, hm⟩ := h0; exact DataW.trod_lt m _ _ _ hm
  have lt1 : ∀ x ∈ p1, x.block < W.heap.size := by obtain ⟨m, hm⟩ := h1; exact DataW.trod_lt m _ _ _ hm
  have lt2 : ∀ x ∈ p2, x.block < W.heap.size := by obtain ⟨m, hm⟩ := h2; exact DataW.trod_lt m _ _ _ hm
  obtain ⟨L0, e0, s0⟩ := strs_of h0
  obtain ⟨L1, e1, s1⟩ := strs_of h1
  obtain ⟨L2, e2, s2⟩ := strs_of h2
  obtain ⟨bm, o, hglob, hmap, k1, k2, k3⟩ := of_laid hL
  clear hA0 hval0
  have walk : Calls Ybaf.prog 3 #[.slice a0 len0 cap0, .slice a1 len1 cap1, .slice a2 len2 cap2] W fun e W' => e = .returned (.bool true) ∧ Below W.heap.size W W' := by
    by_cases hbig : 300 < len0 ∨ 300 < len1 ∨ 300 < len2
    · exact (early_f W a0 a1 a2 len0 len1 len2 cap0 cap1 cap2 hbig).mono fun e W' ⟨he, hw⟩ => ⟨he, by rw [hw]; exact Below.refl _ _⟩
    · subst e0 e1 e2
      exact law_f W a0 a1 a2 cap0 cap1 cap2 L0 L1 L2 s0 s1 s2 (by omega) (by omega) (by omega) bm o hglob hmap k1 k2 k3
  refine walk.mono fun e W' ⟨he, bel⟩ => ?_
  subst he
  exact ⟨_, rfl, _, _, _, [], _, _, hW', trodAll_mk1 (shut_bool Ybaf.underlying4 _),
    (trodAll_cons_mk (Below.trod laidOut (by kernel_rfl) (of_decide_eq_true (by kernel_rfl)) h0 bel lt0) (trodAll_cons_mk (Below.trod laidOut (by kernel_rfl) (of_decide_eq_true (by kernel_rfl)) h1 bel lt1) (trodAll_cons_mk (Below.trod laidOut (by kernel_rfl) (of_decide_eq_true (by kernel_rfl)) h2 bel lt2) trodAll_mk0))),
    vars_below laidOut bel _ _ _ (by kernel_rfl) hV, bel.frame _, fun h => by cases h⟩

theorem stopKnobs : Ybaf.pinned.checked.prog.stopKnobs = [] := by kernel_rfl
theorem quiet (os : Os) : Stop.quiet Ybaf.pinned.checked.prog os := by
  intro k hk
  rw [stopKnobs] at hk
  cases hk
theorem laidOutP : laidOutB Ybaf.pinned.checked.prog = true := by kernel_rfl
theorem stopsP : Rows.lawS0274AFieldsRow.stops = Ybaf.pinned.checked.prog.stops := by kernel_rfl

/-- ████ THE STATEMENT ████ -/
theorem proved : Rows.LawS0274AFieldsToldSaid :=
  Claim7.holds_of_told_tied_any_at .later 3 Ybaf.f3 _ [] [] _ _ _ _ _ (by kernel_rfl) rfl rfl rfl laidOutP (by kernel_rfl) rfl ⟨rfl, rfl, rfl, rfl, rfl, rfl, rfl⟩ rfl rfl (by kernel_rfl) (by kernel_rfl) Ybaf.func3 (by kernel_rfl)
    (of_decide_eq_true (by kernel_rfl)) (by unfold Func.isWrapper; first | (rw [if_pos (by decide +kernel)]; kernel_rfl) | (rw [if_neg (by decide +kernel)]; exact ⟨rfl, rfl⟩)) stopsP rfl stopKnobs.symm (by kernel_rfl)
    (by kernel_rfl) (by kernel_rfl) (by kernel_rfl) (by kernel_rfl) (by kernel_rfl) (by kernel_rfl) (by kernel_rfl) (by kernel_rfl) (by kernel_rfl) rfl (by kernel_rfl) rfl rfl
    rfl rfl
    rfl (by kernel_rfl) (by kernel_rfl) (by kernel_rfl) (by decide) (by kernel_rfl) lawS0274AFields_row_tie
    (OpenClaim.moreEntering_of (by kernel_rfl) (by kernel_rfl) (by kernel_rfl) (by kernel_rfl) (by kernel_rfl) (by kernel_rfl) (by kernel_rfl) (by kernel_rfl) (by kernel_rfl) (by kernel_rfl))
    ⟨_, WideRow.started_initial, quiet _⟩
    (fun os started _ H enc _ => lifted os started H enc)
end Go.Proofs.YbulkeqoFmt.lawS0274AFields
