/-
  '^m + 1' of a uint64: the negation; as the walk spells it.
-/
import Derived.Laws.BitsAllLaws
import Derived.WalkKit
namespace Go.Proofs.Qxb6619417aDoor
set_option linter.unusedVariables false
namespace Neg
theorem u64_not (a : Nat) (ha : a < 18446744073709551616) : bits .xor .u64 IntKind.u64.max (a : Int) = 18446744073709551615 - (a : Int) := by
  show IntKind.u64.wrap ((BitVec.ofInt 64 IntKind.u64.max ^^^ BitVec.ofInt 64 (a : Int)).toNat : Int) = _
  have h1 : BitVec.ofInt 64 IntKind.u64.max = BitVec.allOnes 64 := by decide
  rw [h1, BitVec.allOnes_xor, BitVec.toNat_not, ofInt_u64 a (by omega)]
  simp [IntKind.wrap, IntKind.bits, IntKind.signed]
  omega
theorem wrap_u (n : Int) : IntKind.u64.wrap n = n % 18446744073709551616 := by simp [IntKind.wrap, IntKind.bits, IntKind.signed]
theorem wrap_i (n : Int) (h : -9223372036854775808 ≤ n ∧ n ≤ 9223372036854775807) : IntKind.i64.wrap n = n := by
  simp [IntKind.wrap, IntKind.bits, IntKind.signed]
  omega
/-- 'm := uint64(x); m = ^m + 1' at a negative x. -/
theorem neg_u64 (x : Int) (hx : x < 0) (hx2 : -9223372036854775808 ≤ x) : IntKind.u64.wrap (bits .xor .u64 IntKind.u64.max (IntKind.u64.wrap x) + 1) = -x := by
  have e : IntKind.u64.wrap x = ((x + 18446744073709551616).toNat : Int) := by rw [wrap_u]; omega
  rw [e, u64_not _ (by omega), wrap_u]
  omega
/-- 'int64(^m + 1)' at an m of at most 2^63. -/
theorem neg_i64 (a : Int) (h0 : 0 ≤ a) (h : a ≤ 9223372036854775808) : IntKind.i64.wrap (IntKind.u64.wrap (bits .xor .u64 IntKind.u64.max a + 1)) = -a := by
  have e : a = (a.toNat : Int) := by omega
  rw [e, u64_not _ (by omega), wrap_u]
  generalize a.toNat = n at *
  simp [IntKind.wrap, IntKind.bits, IntKind.signed]
  omega
end Neg
end Go.Proofs.Qxb6619417aDoor
