/-
  LawS0276BLastOfName: the row's step, and the statement.
-/
import Derived.Test.YbulkerqWalkL
import Derived.ProofKit
import Derived.OpenShut
import Derived.ShutString
import Derived.ChangeOld
import Derived.Below
import Derived.Deep.SlicePairs
namespace Go.Proofs.Ybulkerq.lawS0276BLastOfName
open Go.ChangeShapes Go.WideShapes Go.ChangeAt Go.RowKit
open Go.ChangeMaps (open_string shut_string)
set_option linter.unusedVariables false

theorem own : ownKnob Yba.prog.godebug = none := by kernel_rfl
theorem laidOut : laidOutB Yba.prog = true := by kernel_rfl
theorem cells9 : Yba.prog.cellsOf 9 = 1 := by kernel_rfl

theorem cells27 : Yba.prog.cellsOf 27 = 2 := by kernel_rfl
theorem cells5 : Yba.prog.cellsOf 5 = 1 := by kernel_rfl

/-- A slice of items, opened for the walk. -/
theorem its_of {H : Type} {enc : TypeId × Value → H} {W : World} {a : Option Addr} {len cap : Nat} {d : DataW H} {p : List MemPlace} (h : DataW.Trod enc Yba.prog W 0 (fun _ => true) true 22 (.slice a len cap) d p) : ∃ L : List (Int × ByteArray), L.length = len ∧ Its W a L := by
  obtain ⟨fuel, hf⟩ := h
  rcases Go.Deep.open_slice_pairs Yba.underlying22 Yba.underlying27 cells27 rfl rfl cells5 cells9 hf with ⟨hcs, _⟩ | ⟨x, l, c, m, n, V0, V1, D0, D1, P0, P1, hcs, _, hl, hm, hmm, _, hcell⟩
  · simp [Value.cells] at hcs
    obtain ⟨rfl, rfl, rfl⟩ := hcs
    exact ⟨[], rfl, fun j s hj => by simp at hj⟩
  · simp [Value.cells] at hcs
    obtain ⟨rfl, rfl, rfl⟩ := hcs
    simp only [if_true] at hmm
    subst hmm
    have each : ∀ i, i < len → ∃ q : Int × ByteArray, V0 i = .int .u8 q.1 ∧ V1 i = .string q.2 ∧ 0 ≤ q.1 ∧ q.1 ≤ 255 := fun i hi => by
      obtain ⟨_, _, t0, t1⟩ := hcell i (by omega)
      obtain ⟨z, e0, _, hwf⟩ := DataW.trod_int Yba.underlying5 t0
      obtain ⟨s, e1, _, _⟩ := DataW.trod_string Yba.underlying9 t1
      have hb := bounds_u8 hwf
      simp only [List.cons.injEq, and_true] at e0 e1
      exact ⟨(z, s), e0, e1, hb.1, hb.2⟩
    obtain ⟨f, hf⟩ := Go.Deep.choose_lt each
    refine ⟨(List.range len).map f, by simp, fun j q hj => ?_⟩
    have hlt : j < len := by
      have := (List.getElem?_eq_some_iff.1 hj).1
      simpa using this
    simp [hlt] at hj
    subst hj
    obtain ⟨g0, g1, _, _⟩ := hcell j (by omega)
    obtain ⟨e0, e1, b0, b1⟩ := hf j hlt
    rw [e0] at g0
    rw [e1] at g1
    obtain ⟨b, o, sp⟩ := x
    cases sp with
    | none => exact ⟨b, o, rfl, by rw [← Addr.add_lit]; exact g0, by rw [Nat.add_assoc, ← Addr.add_lit]; exact g1, b0, b1⟩
    | some q =>
      have h0 := (hcell 0 (by omega)).1
      rw [Nat.zero_mul, Addr.add_zero'] at h0
      unfold World.cell? at h0
      split at h0 <;> simp_all

theorem walk (W : World) (a0 : Option Addr) (cap0 len0 : Nat) (L0 : List (Int × ByteArray)) (qy : Int) (q0 : 0 ≤ qy) (q1 : qy ≤ 255) (e0 : L0.length = len0) (s0 : Its W a0 L0) :
    Calls Yba.prog 3 #[.slice a0 len0 cap0, .int .u8 qy] W fun e W' => e = .returned (.bool true) ∧ Below W.heap.size W W' := by
  by_cases hbig : 1024 < len0
  · exact (last_early W a0 len0 cap0 qy hbig).mono fun e W' ⟨he, hw⟩ => ⟨he, by rw [hw]; exact Below.refl _ _⟩
  · subst e0
    exact last_walk W a0 cap0 L0 qy q0 q1 s0 (by omega)

set_option maxRecDepth 100000 in
theorem lifted (os : Os) (started : os.Started) (H : Type) (enc : TypeId × Value → H) :
    ReturnsInHanded {} Yba.checked os 3 .any (Rows.lawS0276BLastOfNameSpec.pre6 enc Yba.prog Yba.f3 Rows.lawS0276BLastOfNameRow.domain false) (Rows.lawS0276BLastOfNameSpec.post enc Yba.prog Yba.f3 false true false false) := by
  refine returnsInHanded_of_change (C := Yba.checked) own started (by kernel_rfl) Yba.func3
    (ChangeSpec.witness6 (enc := enc) (C := Yba.checked) false ⟨#[], #[.slice none 0 0, .int .u8 0], []⟩ 8 (by kernel_rfl) (by kernel_rfl) (by kernel_rfl) (by kernel_rfl)) ?_
  intro W base args ds gs before hval0 hW hcnd _
  have hval : ∀ (j : Nat) t v, Yba.f3.params[j]? = some t → args[j]? = some v → Value.okWide Yba.prog W .any base t v := hval0
  have hW' := hW
  obtain ⟨p, q, hA0, hV, rfl, hfz, hnd⟩ := hW
  have hA : DataW.TrodAll enc Yba.prog W 0 (fun _ => true) true Yba.f3.params.toList args.toList ds p := hA0
  rw [Yba.params3] at hA hval
  obtain ⟨v0, vs0, d0, ds0, p0, q0, hargs, rfl, rfl, h0, r0⟩ := trodAll_cons hA
  obtain ⟨v1, vs1, d1, ds1, p1, q1, rfl, rfl, rfl, h1, r1⟩ := trodAll_cons r0
  obtain ⟨rfl, rfl, rfl⟩ := trodAll_nil r1
  obtain rfl : args = #[v0, v1] := by cases args; simp_all
  obtain ⟨rfl, rfl⟩ := trodVars_none hV
  obtain ⟨a0, len0, cap0, rfl⟩ := okWide_slice Yba.underlying22 (hval 0 22 v0 rfl rfl)
  obtain ⟨a1, rfl, rfl, rfl, w1⟩ := open_int Yba.underlying5 (hval 1 5 v1 rfl rfl) h1
  have lt0 : ∀ x ∈ p0, x.block < W.heap.size := by obtain ⟨m, hm⟩ := h0; exact DataW.trod_lt m _ _ _ hm
  obtain ⟨L0, e0, s0⟩ := its_of h0
  have bq := bounds_u8 w1
  clear hA0 hval0
  refine (walk W a0 cap0 len0 L0 a1 bq.1 bq.2 e0 s0).mono fun e W' ⟨he, bel⟩ => ?_
  subst he
  exact ⟨_, rfl, _, _, _, [], _, [], hW', trodAll_mk1 (shut_bool Yba.underlying4 _), (trodAll_cons_mk (Below.trod laidOut (by kernel_rfl) (of_decide_eq_true (by kernel_rfl)) h0 bel lt0) (trodAll_cons_mk (shut_int Yba.underlying5 w1) trodAll_mk0)), rfl, bel.frame _, fun h => by cases h⟩

/-- ████ THE STATEMENT ████ -/
theorem proved : Rows.LawS0276BLastOfNameSaid :=
  OpenClaim.holds_of_wide 3 Yba.f3 rfl rfl rfl rfl rfl rfl rfl ⟨rfl, rfl, rfl, rfl, rfl⟩ rfl rfl rfl rfl rfl (by kernel_rfl) Yba.func3 (by kernel_rfl)
    (of_decide_eq_true (by kernel_rfl)) (by unfold Func.isWrapper; first | (rw [if_pos (by decide +kernel)]; kernel_rfl) | (rw [if_neg (by decide +kernel)]; exact ⟨rfl, rfl⟩))
    (fun os started H enc _ => lifted os started H enc)
end Go.Proofs.Ybulkerq.lawS0276BLastOfName
