/-
  'gFinite': whether a number is neither NaN nor infinite.
-/
import Derived.Test.YtmgomieffmbmiaaFloatInt
import Derived.Test.YtmgomieffmbmiaaWalk
import Derived.Laws.Externs
import GoSem.Extern.MathFloatBits
namespace Go.Proofs.Ytmgomieffmbmiaa.Fi
open Go.ChangeShapes Go.WideShapes Go.ChangeAt Go.RowKit Go.Sort
open Fl Ieee
attribute [local irreducible] wpQuiet

theorem ret_bool {a b : Bool} (h : a = b) : Ending.returned (.bool a) = .returned (.bool b) := by rw [h]
theorem ret_fl {a b : Nat} (h : a = b) : Ending.returned (.float .f64 a) = .returned (.float .f64 b) := by rw [h]

theorem run_bits (x : Nat) (w : World) : (callFunc 109 #[.float .f64 x]).run Try.prog w = .ok (.value (.int .u64 (x : Int))) w := by
  have h : (callFunc 109 #[.float .f64 x]).run Try.prog w = ((Extern.MathFloatBits.float64bits #[.float .f64 x]).run Try.prog w).andThen fun v w' => .ok (.value v) w' :=
    run_callFunc_extern Try.func109 (by kernel_rfl) (by kernel_rfl) (by kernel_rfl) (by kernel_rfl) _ _
  rw [h]
  rfl
theorem run_frombits (x : Int) (w : World) : (callFunc 108 #[.int .u64 x]).run Try.prog w = .ok (.value (.float .f64 x.toNat)) w := by
  have h : (callFunc 108 #[.int .u64 x]).run Try.prog w = ((Extern.MathFloatBits.float64frombits #[.int .u64 x]).run Try.prog w).andThen fun v w' => .ok (.value v) w' :=
    run_callFunc_extern Try.func108 (by kernel_rfl) (by kernel_rfl) (by kernel_rfl) (by kernel_rfl) _ _
  rw [h]
  rfl
attribute [local go_sem ↓] run_bits run_frombits

theorem andNot63 (x : Nat) : bits .andNot .u64 (x : Int) 9223372036854775808 = ((x % 2 ^ 63 : Nat) : Int) := by
  show IntKind.u64.wrap ((BitVec.ofInt 64 x &&& ~~~BitVec.ofInt 64 9223372036854775808).toNat : Int) = _
  have h : (~~~BitVec.ofInt 64 9223372036854775808).toNat = 2 ^ 63 - 1 := by decide
  rw [BitVec.toNat_and, h, Nat.and_two_pow_sub_one_eq_mod, BitVec.toNat_ofInt, IntKind.wrap_u64]
  omega

/-- whether a word is a number, as the program asks it -/
def fin (x : Nat) : Bool := !(FloatKind.f64.format.order x x != some .eq) && !(FloatKind.f64.format.order (x % 2 ^ 63) 9218868437227405311 == some .gt)

theorem read_abs {x : Nat} (h : IsInf x) : double.read (x % 2 ^ 63) = .infinity false := by
  obtain ⟨s, h⟩ := h
  unfold Format.read at h ⊢
  simp only [sw_eq, binade_eq, inf_eq, least_eq] at h ⊢
  have e : x % 2 ^ 63 % 2 ^ 63 = x % 2 ^ 63 := Nat.mod_mod _ _
  have e2 : x % 2 ^ 63 / 2 ^ 63 % 2 = 0 := by omega
  rw [e, e2]
  split at h
  · cases h
  · split at h
    · cases h
    · split at h
      · rename_i h1 h2 h3
        rw [if_neg h1, if_neg h2, if_pos h3]; rfl
      · cases h
theorem fin_num {x : Nat} (h : fin x = true) : Num x := by
  rcases kinds x with hk | hk | hk
  · exact hk
  · exfalso
    have : FloatKind.f64.format.order (x % 2 ^ 63) 9218868437227405311 = some .gt := by
      show double.order (x % 2 ^ 63) 9218868437227405311 = some .gt
      have hm : ∃ m p, double.read 9218868437227405311 = .number false m p := ⟨_, _, rfl⟩
      obtain ⟨m, p, hm⟩ := hm
      unfold Format.order
      rw [read_abs hk, hm]
      rfl
    unfold fin at h
    rw [this] at h
    simp at h
  · exfalso
    have : FloatKind.f64.format.order x x = none := order_nan_left hk x
    unfold fin at h
    rw [this] at h
    simp at h

theorem abs_any (x : Nat) (w : World) : Calls Try.prog 75 #[.float .f64 x] w fun ex w' => ex = .returned (.float .f64 (x % 2 ^ 63)) ∧ Below w.heap.size w w' := by
  have h := andNot63 x
  go_enter Try.func75, Try.ntmps75
  go_wp2_with fail
  trace_state
  go_ret
  exact ⟨ret_fl (by simp), by (repeat first | exact Below.refl _ _ | refine Below.drew ?_ | refine Below.setCell ?_ (by simp) _ | refine Below.alloc ?_ (by simp <;> omega) _)⟩

theorem isinf_any (x : Nat) (w : World) : Calls Try.prog 53 #[.float .f64 x, .int .i64 0] w fun ex w' => ex = .returned (.bool (FloatKind.f64.format.order (x % 2 ^ 63) 9218868437227405311 == some .gt)) ∧ Below w.heap.size w w' := by
  go_enter Try.func53, Try.ntmps53
  go_wp2_with (first | (go_at_call 75; refine (abs_any _ _).mono ?_; rintro e w1 ⟨rfl, hb1⟩) | fail)
  go_ret
  exact ⟨rfl, hb1⟩

theorem isnan_any (x : Nat) (w : World) : Calls Try.prog 52 #[.float .f64 x] w fun ex w' => ex = .returned (.bool (FloatKind.f64.format.order x x != some .eq)) ∧ Below w.heap.size w w' := by
  go_enter Try.func52, Try.ntmps52
  go_wp2_with fail
  go_ret
  exact ⟨rfl, by (repeat first | exact Below.refl _ _ | refine Below.drew ?_ | refine Below.setCell ?_ (by simp) _ | refine Below.alloc ?_ (by simp <;> omega) _)⟩

theorem finite_any (x : Nat) (w : World) : Calls Try.prog 25 #[.float .f64 x] w fun ex w' => ex = .returned (.bool (fin x)) ∧ Below w.heap.size w w' := by
  have hN := Lib.hid (isnan_any x)
  have hI := Lib.hid (isinf_any x)
  have hf : Hid (fin x = (!(FloatKind.f64.format.order x x != some .eq) && !(FloatKind.f64.format.order (x % 2 ^ 63) 9218868437227405311 == some .gt))) := rfl
  generalize (FloatKind.f64.format.order x x != some .eq) = a at *
  generalize (FloatKind.f64.format.order (x % 2 ^ 63) 9218868437227405311 == some .gt) = b at *
  have arms : True := trivial
  cases a
  · go_enter Try.func25, Try.ntmps25
    go_wp2_with (first | (go_at_call 52; refine (hN.out _).mono ?_; rintro e w1 ⟨rfl, hb1⟩) | (go_at_call 53; refine (hI.out _).mono ?_; rintro e w2 ⟨rfl, hb2⟩) | fail)
    go_ret
    exact ⟨ret_bool (by rw [hf.out]; rfl), hb1.trans (hb2.mono hb1.size)⟩
  · go_enter Try.func25, Try.ntmps25
    go_wp2_with (first | (go_at_call 52; refine (hN.out _).mono ?_; rintro e w1 ⟨rfl, hb1⟩) | fail)
    go_ret
    exact ⟨ret_bool (by rw [hf.out]; rfl), hb1⟩
end Go.Proofs.Ytmgomieffmbmiaa.Fi
