/-
  LawS0274BExact: the walks and the row. The frame is the tool's shell (proof-skeleton.mjs) for this function.
-/
import Derived.Test.YbulkeqoRows
import Derived.Test.YbulkeqoBits
import Derived.RegionTactic
import Derived.WalkKit
import Derived.ProofKit
import Derived.OpenShut
import Derived.ShutString
import Derived.ChangeOld
import Derived.Below
namespace Go.Proofs.Ybulkeqo.lawS0274BExact
open Go.ChangeShapes Go.WideShapes Go.ChangeAt Go.RowKit
open Go.ChangeMaps (open_string shut_string)
open Go.Proofs.Ybulkeqo.Bits
set_option linter.unusedVariables false

theorem own : ownKnob Yba.prog.godebug = none := by kernel_rfl
theorem laidOut : laidOutB Yba.prog = true := by kernel_rfl

/-- WHAT THE WALK IS TOLD OF A SLICE OF INTEGERS THAT CAME IN: it is nil; or it leads to a row of 'cap' cells, the numbers 'zs' (the first 'len' are its elements, the rest its spare room), each fitting its kind. -/
def IsRow (k : IntKind) (w : World) (a : Option Addr) (len cap : Nat) (zs : List Int) : Prop :=
  (a = none ∧ len = 0 ∧ cap = 0 ∧ zs = []) ∨
  ∃ x, a = some x ∧ len ≤ cap ∧ cap ≤ maxLen ∧ zs.length = cap ∧ (∀ i, i < zs.length → w.cell? (x.add i) = some (.int k (zs.getD i 0))) ∧ ∀ n ∈ zs, (Lit.int k n).wf = true

/-! ### The callees' contracts -/
set_option maxHeartbeats 400000 in
theorem mul64 (x y : Int) (w : World) : Calls Yba.prog 5 #[.int .u64 x, .int .u64 y] w fun e w' => (∃ hi, e = .returned (.tuple #[.int .u64 hi, .int .u64 (IntKind.u64.wrap (x * y))])) ∧ w' = w := by
  go_enter Yba.func5, Yba.ntmps5
  go_wp2
  go_ret2
  exact ⟨⟨_, rfl⟩, rfl⟩

set_option maxHeartbeats 400000 in
theorem ones (x : Int) (w : World) : Calls Yba.prog 7 #[.int .u64 x] w fun e w' => e = .returned (.int .i64 (oc x)) ∧ w' = w := by
  go_enter Yba.func7, Yba.ntmps7
  go_wp2
  go_ret
  exact ⟨rfl, rfl⟩

/-- nameBit at no byte -/
theorem nb0 (a : Option Addr) (c : Nat) (w : World) : Calls Yba.prog 6 #[.slice a 0 c] w fun e w' => e = .returned (.int .u64 1) ∧ w' = w := by
  go_enter Yba.func6, Yba.ntmps6
  go_wp2
  go_ret
  exact ⟨rfl, rfl⟩

/-- nameBit at one byte or more -/
theorem nb1 (x : Addr) (len c : Nat) (z0 z1 : Int) (w : World) (hl : 0 < len) (hm : len ≤ maxLen) (h0 : w.cell? x = some (.int .u8 z0)) (h1 : w.cell? (x.add (len - 1)) = some (.int .u8 z1)) (hz0 : 0 ≤ z0 ∧ z0 ≤ 255) (hz1 : 0 ≤ z1 ∧ z1 ≤ 255) :
    Calls Yba.prog 6 #[.slice (some x) len c] w fun e w' => e = .returned (.int .u64 (bit (cnt (bits .or .u64 len (bits .or .u64 (z0 * 256) (z1 * 65536)))))) ∧ w' = w.drew := by
  unfold maxLen at hm
  have hs := cnt_range (bits .or .u64 len (bits .or .u64 (z0 * 256) (z1 * 65536)))
  unfold cnt at hs
  go_enter Yba.func6, Yba.ntmps6
  go_wp2
  go_region
  all_goals go_wp2
  all_goals go_ret
  all_goals simp [bit, cnt]

/-- the law at no byte -/
theorem law0 (a : Option Addr) (c : Nat) (w : World) : Calls Yba.prog 3 #[.slice a 0 c] w fun e w' => e = .returned (.bool true) ∧ Below w.heap.size w w' := by
  go_enter Yba.func3, Yba.ntmps3
  go_wp2_with fail
  refine (mul64 _ _ _).mono ?_
  rintro e w' ⟨⟨hi, rfl⟩, rfl⟩
  go_wp2_with fail
  refine (nb0 _ _ _).mono ?_
  rintro e w' ⟨rfl, rfl⟩
  go_wp2_with fail
  refine (ones _ _).mono ?_
  rintro e w' ⟨rfl, rfl⟩
  have h1 : oc 1 = 1 := by decide +kernel
  go_wp2
  go_ret
  exact ⟨rfl, Below.refl _ _⟩

/-- the law at one byte or more -/
theorem law1 (x : Addr) (len c : Nat) (z0 z1 : Int) (w : World) (hl : 0 < len) (hm : len ≤ maxLen) (h0 : w.cell? x = some (.int .u8 z0)) (h1 : w.cell? (x.add (len - 1)) = some (.int .u8 z1)) (hz0 : 0 ≤ z0 ∧ z0 ≤ 255) (hz1 : 0 ≤ z1 ∧ z1 ≤ 255) :
    Calls Yba.prog 3 #[.slice (some x) len c] w fun e w' => e = .returned (.bool true) ∧ Below w.heap.size w w' := by
  have hm' := hm
  unfold maxLen at hm'
  obtain ⟨h, hh⟩ : ∃ h, h = bits .or .u64 len (bits .or .u64 (z0 * 256) (z1 * 65536)) := ⟨_, rfl⟩
  have nb := fun w h0 h1 => nb1 x len c z0 z1 w hl hm h0 h1 hz0 hz1
  rw [← hh] at nb
  have hs := cnt_range h
  obtain ⟨v, hv⟩ : ∃ v, v = bit (cnt h) := ⟨_, rfl⟩
  rw [← hv] at nb
  have ho : oc v = 1 := hv ▸ oc_bit _ hs
  obtain ⟨p, hp⟩ : ∃ p, p = IntKind.u64.wrap (h * 11400714819323198485) := ⟨_, rfl⟩
  have mu := fun w => mul64 h 11400714819323198485 w
  rw [← hp] at mu
  have hv2 : IntKind.u64.wrap (2 ^ (p / 288230376151711744).toNat) = v := by rw [hv, hp]; rfl
  have hs2 : 0 ≤ p / 288230376151711744 ∧ p / 288230376151711744 ≤ 63 := by rw [hp]; exact hs
  have hh2 : bits .or .u64 (bits .or .u64 len (z0 * 256)) (z1 * 65536) = h := by rw [or_assoc_u64, hh]
  have NB : Hid _ := nb
  have MU : Hid _ := mu
  have HO : Hid _ := ho
  clear hh hs hv hp nb mu ho
  go_enter Yba.func3, Yba.ntmps3
  go_wp2
  go_region
  go_wp2_with fail
  refine (MU.out _).mono ?_
  rintro e w' ⟨⟨hi, rfl⟩, rfl⟩
  go_wp2_with fail
  refine (NB.out _ (by simpa using h0) (by simpa using h1)).mono ?_
  rintro e w' ⟨rfl, rfl⟩
  go_wp2_with fail
  refine (ones _ _).mono ?_
  rintro e w' ⟨rfl, rfl⟩
  rw [HO.out]
  go_wp2
  go_ret
  exact ⟨rfl, ((Below.refl _ _).drew).drew⟩

theorem walk (a0 : Option Addr) (len0 cap0 : Nat) (z0 : List Int) (w : World) (w0 : IsRow .u8 w a0 len0 cap0 z0) :
    Calls Yba.prog 3 #[.slice a0 len0 cap0] w fun e w' => e = .returned (.bool true) ∧ Below w.heap.size w w' := by
  rcases w0 with ⟨rfl, rfl, rfl, rfl⟩ | ⟨x, rfl, hl, hm, hz, hc, hw⟩
  · exact law0 none 0 w
  · by_cases h : len0 = 0
    · subst h; exact law0 (some x) cap0 w
    · have b : ∀ i, 0 ≤ z0.getD i 0 ∧ z0.getD i 0 ≤ 255 := fun i => by
        have := range_u8 hw i
        simpa using this
      have c0 := hc 0 (by omega)
      have c1 := hc (len0 - 1) (by omega)
      have e0 : x.add 0 = x := by simp [Addr.add]
      rw [e0] at c0
      exact law1 x len0 cap0 (z0.getD 0 0) (z0.getD (len0 - 1) 0) w (by omega) (by omega) c0 c1 (b 0) (b (len0 - 1))

/-! ### THE ROW's STEP: WRITTEN OUT: LEAVE IT -/
set_option maxRecDepth 100000 in
theorem lifted (os : Os) (started : os.Started) (H : Type) (enc : TypeId × Value → H) :
    ReturnsInHanded {} Yba.checked os 3 .any (Rows.lawS0274BExactSpec.pre6 enc Yba.prog Yba.f3 Rows.lawS0274BExactRow.domain false) (Rows.lawS0274BExactSpec.post enc Yba.prog Yba.f3 false true false false) := by
  refine returnsInHanded_of_change (C := Yba.checked) own started (by kernel_rfl) Yba.func3
    (ChangeSpec.witness6 (enc := enc) (C := Yba.checked) false ⟨#[], #[.slice none 0 0], []⟩ 8 (by kernel_rfl) (by kernel_rfl) (by kernel_rfl) (by kernel_rfl)) ?_
  intro W base args ds gs before hval0 hW hcnd _
  have hval : ∀ (j : Nat) t v, Yba.f3.params[j]? = some t → args[j]? = some v → Value.okWide Yba.prog W .any base t v := hval0
  have hW' := hW
  obtain ⟨p, q, hA0, hV, rfl, hfz, hnd⟩ := hW
  have hA : DataW.TrodAll enc Yba.prog W 0 (fun _ => true) true Yba.f3.params.toList args.toList ds p := hA0
  rw [Yba.params3] at hA hval
  obtain ⟨v0, vs0, d0, ds0, p0, q0, hargs, rfl, rfl, h0, r0⟩ := trodAll_cons hA
  obtain ⟨rfl, rfl, rfl⟩ := trodAll_nil r0
  obtain rfl : args = #[v0] := by cases args; simp_all
  obtain ⟨rfl, rfl⟩ := trodVars_none hV
  obtain ⟨a0, len0, cap0, rfl⟩ := okWide_slice Yba.underlying22 (hval 0 22 v0 rfl rfl)
  have k0 := h0
  have lt0 : ∀ x ∈ p0, x.block < W.heap.size := by obtain ⟨m, hm⟩ := k0; exact DataW.trod_lt m _ _ _ hm
  obtain ⟨z0, w0⟩ : ∃ zs, IsRow .u8 W a0 len0 cap0 zs := by
    obtain ⟨fuel, hf⟩ := h0
    rcases open_ints Yba.underlying22 Yba.underlying5 (by kernel_rfl) hf with ⟨hcs, _⟩ | ⟨x, l, c, zs, hcs, _, hl, hm, hz, _, hcell, hwz⟩
    · simp [Value.cells] at hcs
      obtain ⟨rfl, rfl, rfl⟩ := hcs
      exact ⟨[], .inl ⟨rfl, rfl, rfl, rfl⟩⟩
    · simp [Value.cells] at hcs
      obtain ⟨rfl, rfl, rfl⟩ := hcs
      exact ⟨zs, .inr ⟨_, rfl, hl, hm, by simpa using hz, hcell, hwz⟩⟩
  clear hA0 hval0
  refine (walk a0 len0 cap0 z0 W w0).mono fun e W' ⟨he, bel⟩ => ?_
  subst he
  exact ⟨_, rfl, _, _, _, [], _, [], hW', trodAll_mk1 (shut_bool Yba.underlying4 _), (trodAll_cons_mk (Below.trod laidOut (by kernel_rfl) (of_decide_eq_true (by kernel_rfl)) k0 bel lt0) trodAll_mk0), rfl, bel.frame _, fun h => by cases h⟩

theorem over : Rows.lawS0274BExactRow.holds Yba.pinned (OpenSpec.ofChange Rows.lawS0274BExactSpec) :=
  OpenClaim.holds_of_wide 3 Yba.f3 rfl rfl rfl rfl rfl rfl rfl ⟨rfl, rfl, rfl, rfl, rfl⟩ rfl rfl rfl rfl rfl (by kernel_rfl) Yba.func3 (by kernel_rfl)
    (of_decide_eq_true (by kernel_rfl)) (by unfold Func.isWrapper; first | (rw [if_pos (by decide +kernel)]; kernel_rfl) | (rw [if_neg (by decide +kernel)]; exact ⟨rfl, rfl⟩))
    (fun os started H enc _ => lifted os started H enc)

/-- ████ THE STATEMENT ████ -/
theorem proved : Rows.LawS0274BExactSaid := over
end Go.Proofs.Ybulkeqo.lawS0274BExact
