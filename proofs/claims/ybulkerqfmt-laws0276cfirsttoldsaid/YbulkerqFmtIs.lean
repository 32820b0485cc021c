/-
  errors.Is over a wrapped error of errors.New's make: the closed facts, the two contracts (after the worked example Sentry).
-/
import Derived.Test.YbulkerqFmtRow
import Derived.LaidEql
import Derived.Stop.Asserts
namespace Go.Proofs.YbulkerqFmt
open Go.RowKit Go.Extern.Stop Go.Stop Go.Extern

theorem isTypeOf (v : Value) (w : World) : (callFunc 12 #[.iface 41 v]).run Ybaf.prog w = .ok (.value (.iface 64 (.agg #[.pointer (some ⟨1, 41, none⟩)]))) w := by
  rw [run_callFunc_extern (e := Extern.ReflectliteType.typeOf) Ybaf.func12 (by kernel_rfl) (by kernel_rfl) (by kernel_rfl) (by kernel_rfl)]; kernel_rfl
theorem isComparable (w : World) : (callFunc 61 #[.agg #[.pointer (some ⟨1, 41, none⟩)]]).run Ybaf.prog w = .ok (.value (.bool true)) w := by
  rw [run_callFunc_extern (e := Extern.ReflectliteType.method fun t => do Extern.Rtype.noPackHeld "Comparable" t; pure (.bool (← typeInfo t).comparable)) Ybaf.func61 (by kernel_rfl) (by kernel_rfl) (by kernel_rfl) (by kernel_rfl)]; kernel_rfl
theorem isComp : (Ybaf.prog.info? 41).map (·.comparable) = some true := by kernel_rfl
theorem isSize : (Ybaf.prog.info? 43).map (·.size) = some 1 := by kernel_rfl
theorem noIsE (v : Value) (xT : TypeId) (w : World) : (Instr.typeAssert (.iface 41 v) xT 66 true).run Ybaf.prog w = .ok (.tuple #[.nilIface, .bool false]) w := run_typeAssert_lacksB Ybaf.underlying66 (by kernel_rfl) (by kernel_rfl) v xT w
theorem noUnwrapE (v : Value) (xT : TypeId) (w : World) : (Instr.typeAssert (.iface 41 v) xT 69 true).run Ybaf.prog w = .ok (.tuple #[.nilIface, .bool false]) w := run_typeAssert_lacksB Ybaf.underlying69 (by kernel_rfl) (by kernel_rfl) v xT w
theorem noUnwrapsE (v : Value) (xT : TypeId) (w : World) : (Instr.typeAssert (.iface 41 v) xT 71 true).run Ybaf.prog w = .ok (.tuple #[.nilIface, .bool false]) w := run_typeAssert_lacksB Ybaf.underlying71 (by kernel_rfl) (by kernel_rfl) v xT w
theorem noIsW (v : Value) (xT : TypeId) (w : World) : (Instr.typeAssert (.iface 62 v) xT 66 true).run Ybaf.prog w = .ok (.tuple #[.nilIface, .bool false]) w := run_typeAssert_lacksB Ybaf.underlying66 (by kernel_rfl) (by kernel_rfl) v xT w
theorem hasUnwrapW (v : Value) (xT : TypeId) (w : World) : (Instr.typeAssert (.iface 62 v) xT 69 true).run Ybaf.prog w = .ok (.tuple #[.iface 62 v, .bool true]) w := run_typeAssert_hasB Ybaf.underlying69 (by kernel_rfl) v xT w
theorem isMethodComparable (v : Value) (w : World) : (Go.method 221 64 v "Comparable").run Ybaf.prog w = .ok (61, v) w := by kernel_rfl
theorem methodUnwrap (v : Value) (w : World) : (Go.method 221 62 v "Unwrap").run Ybaf.prog w = .ok (57, v) w := by kernel_rfl

set_option maxRecDepth 1000000 in
/-- errors.Is(e, x), e a *fmt.wrapError that wraps x itself. -/
theorem is_wrap_same (pb po : Nat) (b : Addr) (w : World) (h1 : w.cell? ⟨pb, po + 1, none⟩ = some (.iface 41 (.pointer (some b)))) :
    Calls Ybaf.prog 7 #[.iface 62 (.pointer (some ⟨pb, po, none⟩)), .iface 41 (.pointer (some b))] w fun e w' => e = .returned (.bool true) ∧ w' = w := by
  obtain ⟨i, hi, hcmp⟩ := Option.map_eq_some_iff.1 isComp
  obtain ⟨j, hj, hjs⟩ := Option.map_eq_some_iff.1 isSize
  have tT := isTypeOf
  have cT := isComparable
  have mR := isMethodComparable
  have nE := noIsE
  have uE := noUnwrapE
  have vE := noUnwrapsE
  have nW := noIsW
  have uW := hasUnwrapW
  have mU := methodUnwrap
  have heq := run_eql_iface_ptr_same (P := Ybaf.prog) w b Ybaf.underlying35 Ybaf.underlying41 hi hcmp hj
  have hty := run_eql_iface_types (P := Ybaf.prog) 62 41 (.pointer (some ⟨pb, po, none⟩)) (.pointer (some b)) Ybaf.underlying35 (by decide) w
  go_enter Ybaf.func7, Ybaf.ntmps7
  go_wp2
  refine wp_loop_rounds 2 ?_
  rw [rounds_succ]
  go_wp2
  rw [rounds_succ]
  go_wp2
  go_ret
  exact ⟨rfl, rfl⟩

set_option maxRecDepth 1000000 in
/-- errors.Is(e, x), e a *fmt.wrapError that wraps another error of errors.New's make. -/
theorem is_wrap_other (pb po : Nat) (b a : Addr) (ca cb : Array Value) (ta tb : TypeId) (w : World) (h1 : w.cell? ⟨pb, po + 1, none⟩ = some (.iface 41 (.pointer (some a)))) (hne : a ≠ b) (ha : w.heap[a.block]? = some (.cells ca ta (0, 0))) (hb : w.heap[b.block]? = some (.cells cb tb (0, 0))) :
    Calls Ybaf.prog 7 #[.iface 62 (.pointer (some ⟨pb, po, none⟩)), .iface 41 (.pointer (some b))] w fun e w' => e = .returned (.bool false) ∧ w' = w := by
  obtain ⟨i, hi, hcmp⟩ := Option.map_eq_some_iff.1 isComp
  obtain ⟨j, hj, hjs⟩ := Option.map_eq_some_iff.1 isSize
  have tT := isTypeOf
  have cT := isComparable
  have mR := isMethodComparable
  have nE := noIsE
  have uE := noUnwrapE
  have vE := noUnwrapsE
  have nW := noIsW
  have uW := hasUnwrapW
  have mU := methodUnwrap
  have heq := run_eql_iface_ptr_other (P := Ybaf.prog) w Ybaf.underlying35 Ybaf.underlying41 hi hcmp hj (by rw [hjs]; decide) hne ha hb
  have hty := run_eql_iface_types (P := Ybaf.prog) 62 41 (.pointer (some ⟨pb, po, none⟩)) (.pointer (some b)) Ybaf.underlying35 (by decide) w
  go_enter Ybaf.func7, Ybaf.ntmps7
  go_wp2
  refine wp_loop_rounds 2 ?_
  rw [rounds_succ]
  go_wp2
  rw [rounds_succ]
  go_wp2
  go_ret
  exact ⟨rfl, rfl⟩
end Go.Proofs.YbulkerqFmt
