/- The plain law of the branch-free absolute value. -/
import Derived.Laws.BitsAllLaws
import Derived.WalkKit
namespace Go.Proofs.Qxb6605424a
open Go.RowKit

theorem xor_ones (x : Int) (h0 : -9223372036854775808 ≤ x) (h1 : x < 0) : bits .xor .i64 x (-1) = -x - 1 := by
  show IntKind.i64.wrap ((BitVec.ofInt 64 x ^^^ BitVec.ofInt 64 (-1)).toNat : Int) = _
  have e1 : BitVec.ofInt 64 (-1) = BitVec.allOnes 64 := by decide
  have e2 : (BitVec.ofInt 64 x).toNat = (x + 18446744073709551616).toNat := by
    rw [BitVec.toNat_ofInt]
    omega
  rw [e1, BitVec.xor_allOnes, BitVec.toNat_not, e2, IntKind.wrap_i64]
  omega

theorem xor_zero (x : Int) (h0 : 0 ≤ x) (h1 : x ≤ 9223372036854775807) : bits .xor .i64 x 0 = x := by
  show IntKind.i64.wrap ((BitVec.ofInt 64 x ^^^ BitVec.ofInt 64 0).toNat : Int) = _
  have e1 : BitVec.ofInt 64 0 = 0#64 := by decide
  have e2 : (BitVec.ofInt 64 x).toNat = x.toNat := by
    rw [BitVec.toNat_ofInt]
    omega
  rw [e1, BitVec.xor_zero, e2, IntKind.wrap_i64]
  omega

theorem branch_free (x : Int) (h0 : -9223372036854775808 ≤ x) (h1 : x ≤ 9223372036854775807) :
    (x.natAbs : Int) = IntKind.u64.wrap (wrap64 (bits .xor .i64 x (x / 9223372036854775808) - x / 9223372036854775808)) := by
  by_cases h : x < 0
  · have e : x / 9223372036854775808 = -1 := by omega
    rw [e, xor_ones x h0 h, IntKind.wrap_u64]
    unfold wrap64
    omega
  · have e : x / 9223372036854775808 = 0 := by omega
    rw [e, xor_zero x (by omega) h1, IntKind.wrap_u64]
    unfold wrap64
    omega
end Go.Proofs.Qxb6605424a
