/-
  Plain facts on 64-bit words: the exclusive or of an int64 with 0 and with -1; the zigzag numbers and back. No program here.
-/
import Derived.Lib.Zigzag
import Derived.RowKit
import Derived.IntWalk
namespace Go.Proofs.Ytmdllkjlbalbpaa.Bit
open Go.RowKit

theorem xor_zero (a : Int) (h0 : -9223372036854775808 ≤ a) (h1 : a ≤ 9223372036854775807) : bits .xor .i64 a 0 = a := by
  show IntKind.i64.wrap ((BitVec.ofInt 64 a ^^^ BitVec.ofInt 64 0).toNat : Int) = _
  have h : BitVec.ofInt 64 0 = 0#64 := by decide
  rw [h, BitVec.xor_zero, BitVec.toNat_ofInt, IntKind.wrap_i64]
  omega

theorem xor_ones (a : Int) (h0 : -9223372036854775808 ≤ a) (h1 : a ≤ 9223372036854775807) : bits .xor .i64 a (-1) = -1 - a := by
  show IntKind.i64.wrap ((BitVec.ofInt 64 a ^^^ BitVec.ofInt 64 (-1)).toNat : Int) = _
  have h : BitVec.ofInt 64 (-1) = BitVec.allOnes 64 := by decide
  rw [h, BitVec.xor_allOnes, BitVec.toNat_not, BitVec.toNat_ofInt, IntKind.wrap_i64]
  omega

/-- the zigzag number of 'n' -/
def zz (n : Int) : Int := if 0 ≤ n then 2 * n else -2 * n - 1
/-- what a zigzag number is read as -/
def uz (z : Int) : Int := if z % 2 = 0 then z / 2 else -(z / 2) - 1

theorem zz_bd (n : Int) (h0 : -9223372036854775808 ≤ n) (h1 : n ≤ 9223372036854775807) : 0 ≤ zz n ∧ zz n ≤ 18446744073709551615 := by
  unfold zz; split <;> omega
theorem uz_bd (z : Int) (h0 : 0 ≤ z) (h1 : z ≤ 18446744073709551615) : -9223372036854775808 ≤ uz z ∧ uz z ≤ 9223372036854775807 := by
  unfold uz; split <;> omega
theorem uz_zz (n : Int) : uz (zz n) = n := by unfold uz zz; split <;> split <;> omega
theorem zz_uz (z : Int) (h : 0 ≤ z) : zz (uz z) = z := by unfold uz zz; split <;> split <;> omega

theorem enc_bits (n : Int) (h0 : -9223372036854775808 ≤ n) (h1 : n ≤ 9223372036854775807) :
    IntKind.u64.wrap (bits .xor .i64 (wrap64 (n * 2)) (n / 9223372036854775808)) = zz n := by
  have hw : -9223372036854775808 ≤ wrap64 (n * 2) ∧ wrap64 (n * 2) ≤ 9223372036854775807 := by unfold wrap64; omega
  unfold zz
  split
  · rw [show n / 9223372036854775808 = 0 from by omega, xor_zero _ hw.1 hw.2, IntKind.wrap_u64]; unfold wrap64; omega
  · rw [show n / 9223372036854775808 = -1 from by omega, xor_ones _ hw.1 hw.2, IntKind.wrap_u64]; unfold wrap64; omega

theorem dec_bits (z : Int) (h0 : 0 ≤ z) (h1 : z ≤ 18446744073709551615) :
    bits .xor .i64 (z / 2) (wrap64 (-wrap64 (bits .and .u64 z 1))) = uz z := by
  rw [Lib.u64_and1 z h0 (by omega), IntWalk.wrap64_in (z % 2) (by omega), IntWalk.wrap64_in (-(z % 2)) (by omega)]
  unfold uz
  split
  · rw [show -(z % 2) = 0 from by omega, xor_zero _ (by omega) (by omega)]
  · rw [show -(z % 2) = -1 from by omega, xor_ones _ (by omega) (by omega)]; omega

theorem wf_i64_bd {n : Int} (h : (Lit.int .i64 n).wf = true) : -9223372036854775808 ≤ n ∧ n ≤ 9223372036854775807 := by
  simp [Lit.wf, IntKind.min, IntKind.max, IntKind.bits, IntKind.signed] at h; omega
theorem wf_u64_bd {n : Int} (h : (Lit.int .u64 n).wf = true) : 0 ≤ n ∧ n ≤ 18446744073709551615 := by
  simp [Lit.wf, IntKind.min, IntKind.max, IntKind.bits, IntKind.signed] at h; omega
end Go.Proofs.Ytmdllkjlbalbpaa.Bit
