/-
  The package's two zigzag functions, for every int64 and every uint64: the numbers that they give. No condition.
-/
import Derived.Test.YtmdllkjlbalbpaaRows
import Derived.Test.YtmdllkjlbalbpaaBits
import Derived.WalkKit
import Derived.ProofKit
import Derived.Lib.Hide
namespace Go.Proofs.Ytmdllkjlbalbpaa.ZigZag
open Go.ChangeShapes Go.WideShapes Go.ChangeAt Go.RowKit Bit

theorem ret_int {k : IntKind} {a b : Int} (h : a = b) : Ending.returned (.int k a) = .returned (.int k b) := by rw [h]

theorem enc_any (n : Int) (h0 : -9223372036854775808 ≤ n) (h1 : n ≤ 9223372036854775807) (w : World) :
    Calls Try.prog 58 #[.int .i64 n] w fun e w' => e = .returned (.int .u64 (zz n)) ∧ w = w' := by
  have H := Lib.hid (enc_bits n h0 h1)
  go_enter Try.func58, Try.ntmps58
  go_wp2
  go_ret
  exact ⟨ret_int H.out, rfl⟩

theorem dec_any (z : Int) (h0 : 0 ≤ z) (h1 : z ≤ 18446744073709551615) (w : World) :
    Calls Try.prog 57 #[.int .u64 z] w fun e w' => e = .returned (.int .i64 (uz z)) ∧ w = w' := by
  have H := Lib.hid (dec_bits z h0 h1)
  go_enter Try.func57, Try.ntmps57
  go_wp2
  go_ret
  exact ⟨ret_int H.out, rfl⟩

theorem iz_any (n : Int) (h0 : -9223372036854775808 ≤ n) (h1 : n ≤ 9223372036854775807) (w : World) :
    Calls Try.prog 12 #[.int .i64 n] w fun e w' => e = .returned (.int .u64 (zz n)) ∧ w = w' := by
  go_enter Try.func12, Try.ntmps12
  go_wp2_with (first | (go_at_call 58; refine (enc_any _ h0 h1 _).mono ?_; rintro e w' ⟨rfl, rfl⟩) | go_in)
  go_ret
  exact ⟨rfl, rfl⟩

theorem iu_any (z : Int) (h0 : 0 ≤ z) (h1 : z ≤ 18446744073709551615) (w : World) :
    Calls Try.prog 11 #[.int .u64 z] w fun e w' => e = .returned (.int .i64 (uz z)) ∧ w = w' := by
  go_enter Try.func11, Try.ntmps11
  go_wp2_with (first | (go_at_call 57; refine (dec_any _ h0 h1 _).mono ?_; rintro e w' ⟨rfl, rfl⟩) | go_in)
  go_ret
  exact ⟨rfl, rfl⟩
end Go.Proofs.Ytmdllkjlbalbpaa.ZigZag
