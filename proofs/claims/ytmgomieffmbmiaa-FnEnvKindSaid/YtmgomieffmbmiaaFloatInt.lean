/-
  Plain facts on the model's 64-bit floats (no program here): cutting towards zero; whole numbers, to and from integers; words that are no numbers.
-/
import Derived.Test.YtmgomieffmbmiaaFloat
namespace Go.Proofs.Ytmgomieffmbmiaa.Fl
open Ieee

/-- a number's digits and place -/
theorem read_bd {x : Nat} {s : Bool} {m : Nat} {p : Int} (h : double.read x = .number s m p) : -1074 ≤ p ∧ p ≤ 971 ∧ m < 2 ^ 53 := by
  unfold Format.read at h
  simp only [sw_eq, binade_eq, inf_eq, least_eq] at h
  split at h
  · rename_i hlt
    cases h; omega
  · rename_i hge
    split at h
    · rename_i hlt
      cases h
      refine ⟨by omega, ?_, ?_⟩
      · have : x % 2 ^ 63 / 2 ^ 52 < 2047 := by omega
        omega
      · omega
    · split at h <;> cases h

theorem W.of_read {x : Nat} {s : Bool} {m : Nat} {p : Int} {n : Int} (h : double.read x = .number s m p) (hm : m * 2 ^ p.toNat = n.natAbs * 2 ^ (-p).toNat) (hs : n ≠ 0 → s = decide (n < 0)) : W x n := by
  obtain ⟨b1, b2, b3⟩ := read_bd h
  refine ⟨⟨_, _, _, h⟩, ?_⟩
  rw [V_of h]
  have hp := U_pos
  obtain ⟨u, hu, hU⟩ := U_abs
  refine signed_of _ _ _ _ ?_ ?_
  · rw [Int.natAbs_mul, hU]
    exact shift_eq hm (by omega)
  · intro hne
    have h0 : n ≠ 0 := by intro h0; rw [h0, Int.zero_mul] at hne; exact hne rfl
    rw [hs h0]
    congr 1
    apply propext
    constructor
    · intro hh; exact Int.mul_neg_of_neg_of_pos hh hp
    · intro hh
      apply Classical.byContradiction
      intro hc
      have := Int.mul_nonneg (show 0 ≤ n from by omega) (Int.le_of_lt hp)
      omega

/-- the cut towards zero, as a quotient -/
theorem cut_zero (s : Bool) (n drop : Nat) : Toward.zero.cut s n drop = n / 2 ^ drop := by
  unfold Toward.cut
  simp only [Bool.toNat_false, Nat.add_zero, Nat.shiftLeft_eq, Nat.one_mul]
  by_cases h : drop ≤ n.log2 + 2
  · rw [Nat.min_eq_left h]
  · rw [Nat.min_eq_right (by omega)]
    have h1 : n < 2 ^ (n.log2 + 2) := Nat.lt_of_lt_of_le Nat.lt_log2_self (pow_le_of (by omega))
    rw [Nat.div_eq_of_lt h1, Nat.div_eq_of_lt (Nat.lt_of_lt_of_le h1 (pow_le_of (by omega)))]

/-- a number's whole part, without its sign -/
def whole (m : Nat) (p : Int) : Nat := m * 2 ^ p.toNat / 2 ^ (-p).toNat

theorem integral_num {x : Nat} {s : Bool} {m : Nat} {p : Int} (h : double.read x = .number s m p) : (double.read x).integral .zero = .number s (whole m p) 0 := by
  rw [h]
  unfold Datum.integral whole
  simp only [cut_zero, Nat.shiftLeft_eq]

/-- the word of a number cut towards zero -/
def truncW (x : Nat) : Nat := double.write ((double.read x).integral .zero)

theorem trunc_num {x : Nat} {s : Bool} {m : Nat} {p : Int} (h : double.read x = .number s m p) : Num (truncW x) ∧ V (truncW x) = (if s then -1 else 1) * (whole m p : Int) * U := by
  obtain ⟨b1, b2, b3⟩ := read_bd h
  unfold truncW
  rw [integral_num h]
  show Num (double.nearest s (whole m p) 0) ∧ V (double.nearest s (whole m p) 0) = _
  have key : ∃ (M : Nat) (k : Int), M < 2 ^ 53 ∧ -1074 ≤ k ∧ k ≤ 971 ∧ ∃ a b : Nat, (0 : Int) + b = k + a ∧ whole m p * 2 ^ a = M * 2 ^ b := by
    by_cases hp : 0 ≤ p
    · refine ⟨m, p, b3, b1, b2, 0, p.toNat, by omega, ?_⟩
      unfold whole
      rw [show (-p).toNat = 0 from by omega]; simp
    · refine ⟨whole m p, 0, ?_, by omega, by omega, 0, 0, by omega, rfl⟩
      unfold whole
      rw [show p.toNat = 0 from by omega]
      exact Nat.lt_of_le_of_lt (Nat.div_le_self _ _) (by omega)
  obtain ⟨M, k, hM, hk0, hk1, a, b, hab, he⟩ := key
  obtain ⟨kept, e, he', hkept, hread, hval⟩ := nearest_exact s (whole m p) 0 M k hM hk0 hk1 a b hab he
  refine ⟨⟨_, _, _, hread⟩, ?_⟩
  rw [V_of hread, signed_eq, show ((e : Int) - 1074 + 1074).toNat = e from by omega, hval, Int.mul_assoc]
  congr 1
  obtain ⟨u, hu, hU⟩ := U_abs
  have hp := U_pos
  have e2 : M * 2 ^ (k + 1074).toNat = whole m p * 2 ^ u := by
    symm
    exact shift_eq he (by omega)
  rw [e2, Int.natCast_mul, ← hU, Int.natAbs_of_nonneg (Int.le_of_lt hp)]

/-- a number is whole just if cutting it towards zero changes nothing -/
theorem trunc_eq {x : Nat} (h : Num x) : V x = V (truncW x) ↔ ∃ n : Int, W x n := by
  obtain ⟨s, m, p, h⟩ := h
  have ht := (trunc_num h).2
  constructor
  · intro e
    exact ⟨(if s then -1 else 1) * (whole m p : Int), ⟨_, _, _, h⟩, by rw [e, ht]⟩
  · rintro ⟨n, hW⟩
    rw [ht, V_of h, signed_eq, Int.mul_assoc]
    congr 1
    obtain ⟨b1, b2, b3⟩ := read_bd h
    obtain ⟨u, hu, hU⟩ := U_abs
    have hp := U_pos
    have hn : m * 2 ^ (p + 1074).toNat = n.natAbs * 2 ^ u := by
      have := congrArg Int.natAbs hW.2
      rw [V_of h, signed_natAbs, Int.natAbs_mul, hU] at this
      exact this
    have hw : m * 2 ^ (p + 1074).toNat = whole m p * 2 ^ u := by
      by_cases hp0 : 0 ≤ p
      · unfold whole
        rw [show (-p).toNat = 0 from by omega]
        simp only [Nat.pow_zero, Nat.div_one]
        rw [Nat.mul_assoc, ← Nat.pow_add]
        congr 2; omega
      · have e1 : m * 2 ^ 0 = n.natAbs * 2 ^ (-p).toNat := shift_eq hn (by omega)
        have e2 : whole m p = n.natAbs := by
          unfold whole
          rw [show p.toNat = 0 from by omega, e1]
          exact Nat.mul_div_cancel _ (pow_pos' _)
        rw [e2]; exact hn
    rw [hw, Int.natCast_mul, ← hU, Int.natAbs_of_nonneg (Int.le_of_lt hp)]

/-- 'int(x)' of a whole number -/
theorem W.toInt {x : Nat} {n : Int} (h : W x n) (h0 : -9223372036854775808 ≤ n) (h1 : n ≤ 9223372036854775807) : floatToIntVal .f64 x .i64 = some n := by
  obtain ⟨⟨s, m, p, hr⟩, hv⟩ := h
  have hi : (FloatKind.f64.decode x).toInt .zero = some n := by
    show (double.read x).toInt .zero = some n
    unfold Datum.toInt
    rw [integral_num hr]
    simp only [Option.some.injEq]
    have ht := (trunc_num hr).2
    have e := (trunc_eq ⟨s, m, p, hr⟩).2 ⟨n, ⟨s, m, p, hr⟩, hv⟩
    rw [ht, hv] at e
    have := Int.eq_of_mul_eq_mul_right (by have := U_pos; omega) e
    rw [signed_eq, this]; simp
  unfold floatToIntVal
  rw [hi]
  dsimp only
  rw [if_pos ⟨by simp [IntKind.min, IntKind.bits, IntKind.signed]; omega, by simp [IntKind.max, IntKind.bits, IntKind.signed]; omega⟩]

/-! ### words that are no numbers -/
def IsInf (x : Nat) : Prop := ∃ s, double.read x = .infinity s
def IsNaN (x : Nat) : Prop := ∃ s t, double.read x = .nan s t
theorem kinds (x : Nat) : Num x ∨ IsInf x ∨ IsNaN x := by
  cases h : double.read x with
  | number s m p => exact Or.inl ⟨s, m, p, h⟩
  | infinity s => exact Or.inr (Or.inl ⟨s, h⟩)
  | nan s t => exact Or.inr (Or.inr ⟨s, t, h⟩)

theorem order_nan_left {x : Nat} (h : IsNaN x) (y : Nat) : double.order x y = none := by
  obtain ⟨s, t, h⟩ := h
  unfold Format.order; rw [h]; rfl
theorem order_nan_right {y : Nat} (h : IsNaN y) (x : Nat) : double.order x y = none := by
  obtain ⟨s, t, h⟩ := h
  unfold Format.order; rw [h]; cases double.read x <;> rfl

theorem read_inf (s : Bool) : double.read (double.word s double.infRung) = .infinity s := by cases s <;> decide +kernel

/-- the least and the greatest whole number of the statements -/
theorem W.lo : W 13920626448202203136 (-1048576) := W.of_read (s := true) (m := 2 ^ 52) (p := -32) (by decide +kernel) (by decide) (fun _ => rfl)
theorem W.hi : W 4697254411347427328 1048576 := W.of_read (s := false) (m := 2 ^ 52) (p := -32) (by decide +kernel) (by decide) (fun _ => rfl)

/-- a whole number from -2^20 to 2^20 -/
def GW (x : Nat) : Prop := ∃ n : Int, -1048576 ≤ n ∧ n ≤ 1048576 ∧ W x n
noncomputable def gw (x : Nat) : Bool := @decide (GW x) (Classical.propDecidable _)
theorem gw_true {x : Nat} (h : GW x) : gw x = true := by unfold gw; exact @decide_eq_true _ (Classical.propDecidable _) h
theorem gw_false {x : Nat} (h : ¬ GW x) : gw x = false := by unfold gw; exact @decide_eq_false _ (Classical.propDecidable _) h
theorem gw_iff {x : Nat} : gw x = true ↔ GW x := by
  constructor
  · intro h; exact Classical.byContradiction fun hc => by rw [gw_false hc] at h; cases h
  · exact gw_true

theorem gw_num {x : Nat} (h : Num x) : (decide (V x = V (truncW x)) && decide (V 13920626448202203136 ≤ V x) && decide (V x ≤ V 4697254411347427328)) = gw x := by
  by_cases hw : ∃ n, W x n
  · obtain ⟨n, hn⟩ := hw
    rw [decide_eq_true ((trunc_eq h).2 ⟨n, hn⟩), Bool.true_and]
    by_cases hb : -1048576 ≤ n ∧ n ≤ 1048576
    · rw [decide_eq_true ((W.v_le W.lo hn).2 hb.1), decide_eq_true ((W.v_le hn W.hi).2 hb.2), gw_true ⟨n, hb.1, hb.2, hn⟩]; rfl
    · rw [gw_false (fun ⟨k, k1, k2, hk⟩ => by have := hn.inj hk; omega)]
      by_cases h1 : -1048576 ≤ n
      · have : ¬ V x ≤ V 4697254411347427328 := fun hc => by have := (W.v_le hn W.hi).1 hc; omega
        rw [decide_eq_false this, Bool.and_false]
      · have : ¬ V 13920626448202203136 ≤ V x := fun hc => by have := (W.v_le W.lo hn).1 hc; omega
        rw [decide_eq_false this, Bool.false_and]
  · have : ¬ V x = V (truncW x) := fun hc => hw ((trunc_eq h).1 hc)
    rw [decide_eq_false this, gw_false (fun ⟨k, _, _, hk⟩ => hw ⟨k, hk⟩)]; rfl
theorem gw_inf {x : Nat} (h : IsInf x) : gw x = false := by
  refine gw_false fun ⟨n, _, _, ⟨s, m, p, hr⟩, _⟩ => ?_
  obtain ⟨t, ht⟩ := h
  rw [ht] at hr; cases hr
theorem gw_nan {x : Nat} (h : IsNaN x) : gw x = false := by
  refine gw_false fun ⟨n, _, _, ⟨s, m, p, hr⟩, _⟩ => ?_
  obtain ⟨t, u, ht⟩ := h
  rw [ht] at hr; cases hr
end Go.Proofs.Ytmgomieffmbmiaa.Fl
