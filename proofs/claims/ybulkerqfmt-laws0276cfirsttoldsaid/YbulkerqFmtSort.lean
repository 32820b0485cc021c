/-
  sort.SliceStable, walked.
-/
import Derived.Test.YbulkerqFmtStable
import Derived.Lib.ReflectliteSlice
import Derived.Laws.Externs
import Derived.BigCall
import Derived.BigGuard
namespace Go.Proofs.YbulkerqFmt
open Go.RowKit Go.Lib

theorem info44 : (Ybaf.prog.info? 44).map (fun i => i.desc) = some (.slice 47) := by kernel_rfl
theorem packed44 : Ybaf.prog.packed 44 = false := by kernel_rfl
theorem ptrs47 : (Ybaf.prog.info? 47).map (fun i => (i.hasPointers, i.bytes)) = some (true, 24) := by kernel_rfl
theorem kind47 (w : World) : (Extern.Rtype.kind 47).run Ybaf.prog w = .ok 25 w := by kernel_rfl
theorem swapper9 : Ybaf.prog.funcs.findIdx? (·.name == "internal/reflectlite" ++ ".Swapper$" ++ toString 9) = some 31 := by kernel_rfl

theorem swap_ok {blk n c : Nat} {F E : Nat → Value} (hF : ∀ x, (F x).oneCell' = true) (hE : ∀ x, (E x).oneCell' = true) : SwOk blk n c F E (typeHandle Ybaf.prog 47) :=
  fun _ _ h _ _ hi hj => swap_run hF hE h hi hj

set_option maxRecDepth 100000 in
set_option maxHeartbeats 1000000 in
theorem sliceStable_any {w0 : World} {blk n c : Nat} {F E : Nat → Value} {kk : Nat → Nat} {l1 l2 : Value} (hls : LsOk w0 blk n F E kk l1 l2) (hF : ∀ x, (F x).oneCell' = true) (hE : ∀ x, (E x).oneCell' = true) (hn2 : 2 ≤ n) (hn : n ≤ 1024) (f : Nat → Nat) (w : World) (hb0 : But [blk] w0 w) (h : Rw blk n F E f w) (hf : ∀ p, p < n → f p = p) :
    Calls Ybaf.prog 14 #[.iface 44 (.slice (some ⟨blk, 0, none⟩) n c), .func (.func 15) #[] #[l1, l2]] w fun r w' => r = .returned (.tuple #[]) ∧ ∃ g, Rw blk n F E g w' ∧ Mix 0 n f g ∧ Srt kk 0 n g ∧ But [blk] w w' := by
  obtain ⟨i, hi, hd⟩ := Option.map_eq_some_iff.1 info44
  obtain ⟨ie, hie, hip⟩ := Option.map_eq_some_iff.1 ptrs47
  have hk : swapperK n ie 25 = 9 := by
    have h1 : ie.hasPointers = true := congrArg Prod.fst hip
    have h2 : ie.bytes = 24 := congrArg Prod.snd hip
    unfold swapperK
    rw [if_neg (by simp; omega), if_neg (by simp; omega), h1, h2]
    rfl
  have hv := run_valueOf_slice (P := Ybaf.prog) 44 47 i hi hd (some ⟨blk, 0, none⟩) n c w
  have hs := fun w => run_swapper_slice (P := Ybaf.prog) 44 47 i ie hi hd hie 25 kind47 (some ⟨blk, 0, none⟩) n c 31 (by rw [hk]; exact swapper9) w
  rw [hk, if_neg (by omega)] at hs
  have hl := fun a w ha => run_valueLen_slice (P := Ybaf.prog) 44 47 i hi hd packed44 a (some ⟨blk, 0, none⟩) n c w ha
  have HP := stable_any (c := c) hls (swap_ok hF hE) hn f ((w.alloc (.cells #[.slice (some ⟨blk, 0, none⟩) n c] 44)).alloc (.cells #[typeHandle Ybaf.prog 44, .pointer (some ⟨w.heap.size, 0, none⟩), .int .u64 151] 76)) ((hb0.alloc _).alloc _) ((h.alloc _).alloc _) hf
  generalize hth : typeHandle Ybaf.prog 47 = th at hs HP
  simp only [typeHandle] at hv hl HP
  generalize Ybaf.prog.globals.size = gs at hv hl HP
  have HC : Hid (Calls Ybaf.prog 20 _ _ _) := HP
  clear HP hls hF hE hb0 h hf
  go_enter Ybaf.func14, Ybaf.ntmps14
  go_wp2_with fail
  rw [run_callFunc_extern Ybaf.func18 (by kernel_rfl) (by kernel_rfl) (by kernel_rfl) (e := fun args => Extern.ReflectliteValue.unpack (args.getD 0 (.tuple #[]))) (by kernel_rfl),
    show Sem.run Ybaf.prog ((fun args : Array Value => Extern.ReflectliteValue.unpack (args.getD 0 (.tuple #[]))) #[.iface 44 (.slice (some ⟨blk, 0, none⟩) n c)]) w = _ from hv]
  simp only [Result.andThen]
  rw [Oper.upon_value]
  go_wp2_with fail
  rw [run_callFunc_extern Ybaf.func19 (by kernel_rfl) (by kernel_rfl) (by kernel_rfl) (e := Extern.ReflectliteSwapper.swapper "internal/reflectlite" (Extern.ReflectliteValue.valueError "Swapper")) (by kernel_rfl), hs]
  simp only [Result.andThen]
  rw [Oper.upon_value]
  go_wp2_with fail
  rw [run_callFunc_extern Ybaf.func21 (by kernel_rfl) (by kernel_rfl) (by kernel_rfl) (e := Extern.ReflectliteValue.method (Extern.ReflectliteValue.valueError "reflectlite.Value.Len" 0) Extern.ReflectliteValue.len) (by kernel_rfl),
    hl _ _ (by simp)]
  simp only [Result.andThen]
  rw [Oper.upon_value]
  go_wp2_with fail
  refine HC.out.mono ?_
  rintro r w' ⟨rfl, g, h1, h2, h3, h4⟩
  have H1 : Hid (Rw blk n F E g w') := h1
  have H4 : Hid (But [blk] w w') := ((((But.refl [blk] w).alloc _).alloc _).trans h4)
  clear h1 h4
  go_wp2
  go_end0
  exact ⟨rfl, g, H1.out, h2, h3, H4.out⟩
end Go.Proofs.YbulkerqFmt
