/-
  The types of coordinates: how many numbers a place has.
-/
import Derived.Test.YtmdllkjlbalbpaaWeight
import Derived.Test.YtmdllkjlbalbpaaBits
namespace Go.Proofs.Ytmdllkjlbalbpaa.Wd
open Go.ChangeShapes Go.WideShapes Go.ChangeAt Go.RowKit Go.Sort
attribute [local irreducible] wpQuiet

theorem ret_int {k : IntKind} {a b : Int} (h : a = b) : Ending.returned (.int k a) = .returned (.int k b) := by rw [h]

theorem and3 (a : Int) : bits .and .i64 a 3 = a % 4 := by
  show IntKind.i64.wrap ((BitVec.ofInt 64 a &&& BitVec.ofInt 64 3).toNat : Int) = _
  have h : (BitVec.ofInt 64 3).toNat = 2 ^ 2 - 1 := by decide
  rw [BitVec.toNat_and, h, Nat.and_two_pow_sub_one_eq_mod, BitVec.toNat_ofInt, IntKind.wrap_i64]
  omega

/-- how many numbers a place has -/
def wd (d : Nat) : Nat := if d = 0 then 2 else if d = 3 then 4 else 3
theorem wd_bd (d : Nat) : 2 ≤ wd d ∧ wd d ≤ 4 := by unfold wd; split <;> (try split) <;> omega

theorem width_any (d : Nat) (hd : d < 4) (w : World) :
    Calls Try.prog 68 #[.int .i64 (d : Int)] w fun e w' => e = .returned (.int .i64 (wd d)) ∧ w = w' := by
  have : d = 0 ∨ d = 1 ∨ d = 2 ∨ d = 3 := by omega
  rcases this with rfl | rfl | rfl | rfl
  all_goals
    go_enter Try.func68, Try.ntmps68
    go_wp2
    go_ret
    exact ⟨ret_int (by decide +kernel), rfl⟩

theorem dimOf_any (d : Int) (w : World) :
    Calls Try.prog 82 #[.int .i64 d] w fun e w' => e = .returned (.int .u8 ((d % 4).toNat : Int)) ∧ w = w' := by
  have h := and3 d
  go_enter Try.func82, Try.ntmps82
  go_wp2
  go_ret
  refine ⟨ret_int ?_, rfl⟩
  omega

abbrev dims : Value := .agg #[.int .i64 2, .int .i64 3, .int .i64 3, .int .i64 4]
theorem run_dims0 (w : World) : (Instr.index 136 dims (.int .u8 0)).run Try.prog w = .ok (.int .i64 2) w := by
  have ht : Try.prog.underlying 136 = some (.array 4 3) := by kernel_rfl
  have h1 : Try.prog.cellsOf 3 = 1 := by kernel_rfl
  simp [Instr.index, run_underlying ht, asIntOf, go_sem]
theorem run_dims1 (w : World) : (Instr.index 136 dims (.int .u8 1)).run Try.prog w = .ok (.int .i64 3) w := by
  have ht : Try.prog.underlying 136 = some (.array 4 3) := by kernel_rfl
  have h1 : Try.prog.cellsOf 3 = 1 := by kernel_rfl
  simp [Instr.index, run_underlying ht, asIntOf, go_sem]
theorem run_dims2 (w : World) : (Instr.index 136 dims (.int .u8 2)).run Try.prog w = .ok (.int .i64 3) w := by
  have ht : Try.prog.underlying 136 = some (.array 4 3) := by kernel_rfl
  have h1 : Try.prog.cellsOf 3 = 1 := by kernel_rfl
  simp [Instr.index, run_underlying ht, asIntOf, go_sem]
theorem run_dims3 (w : World) : (Instr.index 136 dims (.int .u8 3)).run Try.prog w = .ok (.int .i64 4) w := by
  have ht : Try.prog.underlying 136 = some (.array 4 3) := by kernel_rfl
  have h1 : Try.prog.cellsOf 3 = 1 := by kernel_rfl
  simp [Instr.index, run_underlying ht, asIntOf, go_sem]
attribute [local go_sem ↓] run_dims0 run_dims1 run_dims2 run_dims3
set_option maxRecDepth 100000 in
theorem dimension_any (d : Nat) (hd : d < 4) (w : World) :
    Calls Try.prog 73 #[.int .u8 (d : Int)] w fun e w' => e = .returned (.int .i64 (wd d)) ∧ w = w' := by
  have : d = 0 ∨ d = 1 ∨ d = 2 ∨ d = 3 := by omega
  rcases this with rfl | rfl | rfl | rfl
  all_goals
    go_enter Try.func73, Try.ntmps73
    go_wp2
    go_ret
    exact ⟨ret_int (by decide +kernel), rfl⟩
end Go.Proofs.Ytmdllkjlbalbpaa.Wd
