/-
  Plain facts for 'LawS0274BExact': the shift's count, the or's associativity, OnesCount64 as a plain function. No walk here.
-/
import Derived.Test.YbulkeqoRows
import Derived.WalkKit
namespace Go.Proofs.Ybulkeqo.Bits
open Go Go.RowKit

theorem wrap_u64 (n : Int) : IntKind.u64.wrap n = n % 18446744073709551616 := by
  simp [IntKind.wrap, IntKind.signed, IntKind.bits]
theorem or_u64 (x y : Int) : bits .or .u64 x y = ((BitVec.ofInt 64 x ||| BitVec.ofInt 64 y).toNat : Int) := by
  show IntKind.u64.wrap ((BitVec.ofInt 64 x ||| BitVec.ofInt 64 y).toNat : Int) = _
  rw [wrap_u64]
  have := (BitVec.ofInt 64 x ||| BitVec.ofInt 64 y).isLt
  omega
theorem ofInt_toNat (v : BitVec 64) : BitVec.ofInt 64 (v.toNat : Int) = v := by
  rw [BitVec.ofInt_natCast]; simp
theorem or_assoc_u64 (x y z : Int) : bits .or .u64 (bits .or .u64 x y) z = bits .or .u64 x (bits .or .u64 y z) := by
  rw [or_u64 (bits .or .u64 x y), or_u64 x y, or_u64 x (bits .or .u64 y z), or_u64 y z, ofInt_toNat, ofInt_toNat, BitVec.or_assoc]

/-- the shift's count: the product's six uppermost bits -/
def cnt (h : Int) : Int := IntKind.u64.wrap (h * 11400714819323198485) / 288230376151711744
theorem cnt_range (h : Int) : 0 ≤ cnt h ∧ cnt h ≤ 63 := by
  unfold cnt; rw [wrap_u64]; omega

/-- the bit that is set -/
def bit (n : Int) : Int := IntKind.u64.wrap (2 ^ n.toNat)

/-- math/bits.OnesCount64, as the walk spells it -/
def oc (x : Int) : Int :=
  let a := IntKind.u64.wrap (bits .and .u64 (x / 2) 6148914691236517205 + bits .and .u64 x 6148914691236517205)
  let b := IntKind.u64.wrap (bits .and .u64 (a / 4) 3689348814741910323 + bits .and .u64 a 3689348814741910323)
  let c := bits .and .u64 (IntKind.u64.wrap (b / 16 + b)) 1085102592571150095
  let d := IntKind.u64.wrap (c + c / 256)
  let e := IntKind.u64.wrap (d + d / 65536)
  let f := IntKind.u64.wrap (e + e / 4294967296)
  bits .and .i64 (wrap64 f) 127

theorem oc_all : ∀ k : Fin 64, oc (bit (k.val : Int)) = 1 := by decide +kernel
theorem oc_bit (n : Int) (h : 0 ≤ n ∧ n ≤ 63) : oc (bit n) = 1 := by
  obtain ⟨m, rfl⟩ := Int.eq_ofNat_of_zero_le h.1
  exact oc_all ⟨m, by omega⟩
end Go.Proofs.Ybulkeqo.Bits
