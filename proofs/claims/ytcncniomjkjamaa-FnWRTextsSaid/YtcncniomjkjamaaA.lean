/- Plain numbers: what the shifts and exclusive ors of the writers come to. -/
import Derived.Test.YtcncniomjkjamaaRows
import Derived.WalkKit
import Derived.Laws.DeepNot64
namespace Go.Proofs.Ytcncniomjkjamaa
open Go.RowKit

/-- A number turned so that those near 0 are small. -/
def zz (x : Int) : Int := if x < 0 then -2 * x - 1 else 2 * x

theorem zz_bounds (x : Int) (h1 : -9223372036854775808 ≤ x) (h2 : x ≤ 9223372036854775807) : 0 ≤ zz x ∧ zz x < 2 ^ 64 := by
  unfold zz
  split <;> constructor <;> omega

theorem xor_ones64 (a : Int) : bits .xor .i64 a (-1) = IntKind.i64.wrap (18446744073709551615 - a % 18446744073709551616) := by
  show IntKind.i64.wrap ((BitVec.ofInt 64 a ^^^ BitVec.ofInt 64 (-1)).toNat : Int) = _
  have h1 : BitVec.ofInt 64 (-1) = BitVec.allOnes 64 := by decide
  rw [h1, BitVec.xor_allOnes, BitVec.toNat_not, BitVec.toNat_ofInt]
  congr 1
  omega

theorem xor_zero64 (a : Int) : bits .xor .i64 a 0 = IntKind.i64.wrap (a % 18446744073709551616) := by
  show IntKind.i64.wrap ((BitVec.ofInt 64 a ^^^ BitVec.ofInt 64 0).toNat : Int) = _
  have h1 : BitVec.ofInt 64 0 = 0#64 := by decide
  rw [h1, BitVec.xor_zero, BitVec.toNat_ofInt]
  congr 1
  omega

theorem wrap_u64 (n : Int) : IntKind.u64.wrap n = n % 18446744073709551616 := by simp [IntKind.wrap, IntKind.bits, IntKind.signed]
theorem wrap_i64 (n : Int) : IntKind.i64.wrap n = (n + 9223372036854775808) % 18446744073709551616 - 9223372036854775808 := by
  simp [IntKind.wrap, IntKind.bits, IntKind.signed]
  omega

theorem zz_long (x : Int) (h1 : -9223372036854775808 ≤ x) (h2 : x ≤ 9223372036854775807) :
    IntKind.u64.wrap (bits .xor .i64 (wrap64 (x * 2)) (x / 9223372036854775808)) = zz x := by
  unfold zz
  split
  · rw [show x / 9223372036854775808 = -1 from by omega, xor_ones64]
    rw [wrap_u64, wrap_i64]
    unfold wrap64
    omega
  · rw [show x / 9223372036854775808 = 0 from by omega, xor_zero64]
    rw [wrap_u64, wrap_i64]
    unfold wrap64
    omega

theorem zz_int (x : Int) (h1 : -2147483648 ≤ x) (h2 : x ≤ 2147483647) :
    IntKind.u64.wrap (bits .xor .u32 (x % 4294967296 * 2 % 4294967296) (x / 2147483648 % 4294967296)) = zz x := by
  unfold zz
  split
  · rw [show x / 2147483648 % 4294967296 = 4294967295 from by omega, u32_xor _ _ (by omega) (by omega) (by omega) (by omega)]
    have h : ∀ n : Nat, n < 4294967296 → n ^^^ 4294967295 = 4294967295 - n := by
      intro n hn
      have h1 := BitVec.xor_allOnes (x := BitVec.ofNat 32 n)
      have h2 := congrArg BitVec.toNat h1
      rw [BitVec.toNat_xor, BitVec.toNat_not, BitVec.toNat_ofNat, BitVec.toNat_allOnes, Nat.mod_eq_of_lt (by omega)] at h2
      exact h2
    rw [show (4294967295 : Int).toNat = 4294967295 from rfl, h _ (by omega)]
    rw [wrap_u64]
    omega
  · rw [show x / 2147483648 % 4294967296 = 0 from by omega, u32_xor _ _ (by omega) (by omega) (by omega) (by omega)]
    rw [wrap_u64, show (0 : Int).toNat = 0 from rfl, Nat.xor_zero]
    omega
end Go.Proofs.Ytcncniomjkjamaa
