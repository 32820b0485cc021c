/-
  LawS0276BFreeNames: the row's step, and the statement.
-/
import Derived.Test.YbulkerqWalkF
import Derived.ProofKit
import Derived.OpenShut
import Derived.ShutString
import Derived.ChangeOld
import Derived.Below
import Derived.SliceStrings
namespace Go.Proofs.Ybulkerq.lawS0276BFreeNames
open Go.ChangeShapes Go.WideShapes Go.ChangeAt Go.RowKit
open Go.ChangeMaps (open_string shut_string)
set_option linter.unusedVariables false

theorem own : ownKnob Yba.prog.godebug = none := by kernel_rfl
theorem laidOut : laidOutB Yba.prog = true := by kernel_rfl
theorem cells9 : Yba.prog.cellsOf 9 = 1 := by kernel_rfl

/-- A slice of strings, opened for the walk. -/
theorem strs_of {H : Type} {enc : TypeId × Value → H} {W : World} {a : Option Addr} {len cap : Nat} {d : DataW H} {p : List MemPlace} (h : DataW.Trod enc Yba.prog W 0 (fun _ => true) true 32 (.slice a len cap) d p) : ∃ L : List ByteArray, L.length = len ∧ Strs W a L := by
  obtain ⟨fuel, hf⟩ := h
  rcases open_strings Yba.underlying32 Yba.underlying9 cells9 hf with ⟨hcs, _⟩ | ⟨x, l, c, ss, hcs, _, hl, hm, hz, _, hcell, hws⟩
  · simp [Value.cells] at hcs
    obtain ⟨rfl, rfl, rfl⟩ := hcs
    exact ⟨[], rfl, fun j s hj => by simp at hj⟩
  · simp [Value.cells] at hcs
    obtain ⟨rfl, rfl, rfl⟩ := hcs
    simp only [if_true] at hz
    refine ⟨ss.take len, by rw [List.length_take]; omega, fun j s hj => ?_⟩
    have hlt : j < len := by
      have := (List.getElem?_eq_some_iff.1 hj).1
      rw [List.length_take] at this; omega
    rw [List.getElem?_take_of_lt hlt] at hj
    have hj2 : j < ss.length := (List.getElem?_eq_some_iff.1 hj).1
    have hc := hcell j (by omega)
    have e : ss.getD j ByteArray.empty = s := by simp [hj]
    rw [e] at hc
    obtain ⟨b, o, sp⟩ := x
    have h0 := hcell 0 (by omega)
    simp only [Addr.add_zero'] at h0
    cases sp with
    | none => exact ⟨b, o, rfl, by rw [← Addr.add_lit]; exact hc⟩
    | some q =>
      unfold World.cell? at h0
      split at h0 <;> simp_all

theorem walk (W : World) (a0 a1 : Option Addr) (cap0 cap1 len0 len1 : Nat) (L0 L1 : List ByteArray) (nm : ByteArray) (e0 : L0.length = len0) (e1 : L1.length = len1) (s0 : Strs W a0 L0) (s1 : Strs W a1 L1) :
    Calls Yba.prog 4 #[.slice a0 len0 cap0, .slice a1 len1 cap1, .string nm] W fun e W' => e = .returned (.bool true) ∧ Below W.heap.size W W' := by
  by_cases hbig : 1024 < len0
  · exact (free_early W a0 a1 len0 cap0 len1 cap1 nm hbig).mono fun e W' ⟨he, hw⟩ => ⟨he, by rw [hw]; exact Below.refl _ _⟩
  · subst e0 e1
    exact free_walk W a0 a1 cap0 cap1 L0 L1 nm s0 s1 (by omega)

set_option maxRecDepth 100000 in
theorem lifted (os : Os) (started : os.Started) (H : Type) (enc : TypeId × Value → H) :
    ReturnsInHanded {} Yba.checked os 4 .any (Rows.lawS0276BFreeNamesSpec.pre6 enc Yba.prog Yba.f4 Rows.lawS0276BFreeNamesRow.domain false) (Rows.lawS0276BFreeNamesSpec.post enc Yba.prog Yba.f4 false true false false) := by
  refine returnsInHanded_of_change (C := Yba.checked) own started (by kernel_rfl) Yba.func4
    (ChangeSpec.witness6 (enc := enc) (C := Yba.checked) false ⟨#[], #[.slice none 0 0, .slice none 0 0, .string ByteArray.empty], []⟩ 8 (by kernel_rfl) (by kernel_rfl) (by kernel_rfl) (by kernel_rfl)) ?_
  intro W base args ds gs before hval0 hW hcnd _
  have hval : ∀ (j : Nat) t v, Yba.f4.params[j]? = some t → args[j]? = some v → Value.okWide Yba.prog W .any base t v := hval0
  have hW' := hW
  obtain ⟨p, q, hA0, hV, rfl, hfz, hnd⟩ := hW
  have hA : DataW.TrodAll enc Yba.prog W 0 (fun _ => true) true Yba.f4.params.toList args.toList ds p := hA0
  rw [Yba.params4] at hA hval
  obtain ⟨v0, vs0, d0, ds0, p0, q0, hargs, rfl, rfl, h0, r0⟩ := trodAll_cons hA
  obtain ⟨v1, vs1, d1, ds1, p1, q1, rfl, rfl, rfl, h1, r1⟩ := trodAll_cons r0
  obtain ⟨v2, vs2, d2, ds2, p2, q2, rfl, rfl, rfl, h2, r2⟩ := trodAll_cons r1
  obtain ⟨rfl, rfl, rfl⟩ := trodAll_nil r2
  obtain rfl : args = #[v0, v1, v2] := by cases args; simp_all
  obtain ⟨rfl, rfl⟩ := trodVars_none hV
  obtain ⟨a0, len0, cap0, rfl⟩ := okWide_slice Yba.underlying32 (hval 0 32 v0 rfl rfl)
  obtain ⟨a1, len1, cap1, rfl⟩ := okWide_slice Yba.underlying32 (hval 1 32 v1 rfl rfl)
  obtain ⟨a2, rfl, rfl, rfl, w2⟩ := open_string Yba.underlying9 (hval 2 9 v2 rfl rfl) h2
  have lt0 : ∀ x ∈ p0, x.block < W.heap.size := by obtain ⟨m, hm⟩ := h0; exact DataW.trod_lt m _ _ _ hm
  have lt1 : ∀ x ∈ p1, x.block < W.heap.size := by obtain ⟨m, hm⟩ := h1; exact DataW.trod_lt m _ _ _ hm
  obtain ⟨L0, e0, s0⟩ := strs_of h0
  obtain ⟨L1, e1, s1⟩ := strs_of h1
  clear hA0 hval0
  refine (walk W a0 a1 cap0 cap1 len0 len1 L0 L1 a2 e0 e1 s0 s1).mono fun e W' ⟨he, bel⟩ => ?_
  subst he
  exact ⟨_, rfl, _, _, _, [], _, [], hW', trodAll_mk1 (shut_bool Yba.underlying4 _), (trodAll_cons_mk (Below.trod laidOut (by kernel_rfl) (of_decide_eq_true (by kernel_rfl)) h0 bel lt0) (trodAll_cons_mk (Below.trod laidOut (by kernel_rfl) (of_decide_eq_true (by kernel_rfl)) h1 bel lt1) (trodAll_cons_mk (shut_string Yba.underlying9 w2) trodAll_mk0))), rfl, bel.frame _, fun h => by cases h⟩

/-- ████ THE STATEMENT ████ -/
theorem proved : Rows.LawS0276BFreeNamesSaid :=
  OpenClaim.holds_of_wide 4 Yba.f4 rfl rfl rfl rfl rfl rfl rfl ⟨rfl, rfl, rfl, rfl, rfl⟩ rfl rfl rfl rfl rfl (by kernel_rfl) Yba.func4 (by kernel_rfl)
    (of_decide_eq_true (by kernel_rfl)) (by unfold Func.isWrapper; first | (rw [if_pos (by decide +kernel)]; kernel_rfl) | (rw [if_neg (by decide +kernel)]; exact ⟨rfl, rfl⟩))
    (fun os started H enc _ => lifted os started H enc)
end Go.Proofs.Ybulkerq.lawS0276BFreeNames
