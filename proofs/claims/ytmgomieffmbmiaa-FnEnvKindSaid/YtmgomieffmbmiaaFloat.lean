/-
  Plain facts on the model's 64-bit floats (no program here): the value of a finite word in units of 2^-1074; comparisons are comparisons of values; a sum, a difference, a product whose exact value a word can hold is exact; whole numbers.
-/
import Derived.Laws.FloatArith
namespace Go.Proofs.Ytmgomieffmbmiaa.Fl
open Ieee

theorem pow_lt_of {a b : Nat} (h : 2 ^ a < 2 ^ b) : a < b := (Nat.pow_lt_pow_iff_right (by decide)).1 h
theorem pow_le_of {a b : Nat} (h : a ≤ b) : 2 ^ a ≤ 2 ^ b := Nat.pow_le_pow_right (by decide) h
theorem pow_pos' (a : Nat) : 0 < 2 ^ a := Nat.two_pow_pos a

/-- 'm * 2^a = M * 2^b' at other exponents with the same difference -/
theorem shift_eq {m M a b p k : Nat} (h : m * 2 ^ a = M * 2 ^ b) (hd : p + b = k + a) : m * 2 ^ p = M * 2 ^ k := by
  have e : m * 2 ^ p * 2 ^ b = M * 2 ^ k * 2 ^ b := by
    rw [Nat.mul_assoc, ← Nat.pow_add, hd, Nat.add_comm k a, Nat.pow_add, ← Nat.mul_assoc, h, Nat.mul_assoc, Nat.mul_assoc, Nat.mul_comm (2 ^ b)]
  exact Nat.eq_of_mul_eq_mul_right (pow_pos' b) e

theorem sw_eq : double.signWeight = 2 ^ 63 := by decide
theorem binade_eq : double.binade = 2 ^ 52 := by decide
theorem inf_eq : double.infRung = 2047 * 2 ^ 52 := by decide
theorem least_eq : double.leastPlace = -1074 := by decide

/-- a rung below infinity, read -/
theorem read_word (neg : Bool) (kept e : Nat) (hk : kept < 2 ^ 53) (hn : 2 ^ 52 ≤ kept ∨ e = 0) (he : e ≤ 2045) :
    double.read (double.word neg (e * 2 ^ 52 + kept)) = .number neg kept ((e : Int) - 1074) := by
  have hr : e * 2 ^ 52 + kept < 2047 * 2 ^ 52 := by omega
  have hsm : e * 2 ^ 52 + kept < 2 ^ 63 := by omega
  have h1 : double.word neg (e * 2 ^ 52 + kept) / 2 ^ 63 % 2 = if neg then 1 else 0 := by
    unfold Format.word; rw [sw_eq]; cases neg <;> simp <;> omega
  have h2 : double.word neg (e * 2 ^ 52 + kept) % 2 ^ 63 = e * 2 ^ 52 + kept := by
    unfold Format.word; rw [sw_eq]; cases neg <;> simp <;> omega
  unfold Format.read
  simp only [sw_eq, binade_eq, inf_eq, least_eq, h1, h2]
  have hb : ((if neg = true then 1 else 0) == 1) = neg := by cases neg <;> rfl
  rw [hb]
  by_cases hs : e * 2 ^ 52 + kept < 2 ^ 52
  · rw [if_pos hs]
    have : e = 0 := by omega
    subst this
    simp
  · rw [if_neg hs, if_pos hr]
    have h52 : 2 ^ 52 ≤ kept := by rcases hn with h | h; exact h; subst h; omega
    have e1 : (e * 2 ^ 52 + kept) % 2 ^ 52 = kept - 2 ^ 52 := by omega
    have e2 : (e * 2 ^ 52 + kept) / 2 ^ 52 - 1 = e := by omega
    rw [e1, e2, show 2 ^ 52 + (kept - 2 ^ 52) = kept from by omega, show (-1074 : Int) + (e : Int) = (e : Int) - 1074 from by omega]

/-- what a word can hold is written exactly -/
theorem nearest_exact (neg : Bool) (mag : Nat) (place : Int) (M : Nat) (k : Int) (hM : M < 2 ^ 53) (hk0 : -1074 ≤ k) (hk1 : k ≤ 971) (a b : Nat)
    (hab : place + b = k + a) (h : mag * 2 ^ a = M * 2 ^ b) :
    ∃ kept e : Nat, e ≤ 2045 ∧ kept < 2 ^ 53 ∧ double.read (double.nearest neg mag place) = .number neg kept ((e : Int) - 1074) ∧ kept * 2 ^ e = M * 2 ^ (k + 1074).toNat := by
  by_cases hm : mag = 0
  · refine ⟨0, 0, by omega, by omega, ?_, ?_⟩
    · have := read_word neg 0 0 (by omega) (Or.inr rfl) (by omega)
      unfold Format.nearest
      rw [if_pos hm]
      simpa using this
    · subst hm
      have : M = 0 := by
        have hp := pow_pos' b
        rcases Nat.eq_zero_or_pos M with h0 | h0
        · exact h0
        · have := Nat.mul_pos h0 hp; omega
      subst this; simp
  · have hL1 : 2 ^ mag.log2 ≤ mag := Nat.log2_self_le hm
    have hL2 : mag < 2 ^ (mag.log2 + 1) := Nat.lt_log2_self
    generalize hL : mag.log2 = L at hL1 hL2
    have hle : L + a < 53 + b := by
      apply pow_lt_of
      calc 2 ^ (L + a) = 2 ^ L * 2 ^ a := Nat.pow_add ..
        _ ≤ mag * 2 ^ a := Nat.mul_le_mul_right _ hL1
        _ = M * 2 ^ b := h
        _ < 2 ^ 53 * 2 ^ b := Nat.mul_lt_mul_of_pos_right hM (pow_pos' b)
        _ = 2 ^ (53 + b) := (Nat.pow_add ..).symm
    unfold Format.nearest
    rw [if_neg hm]
    dsimp only
    rw [least_eq, binade_eq, inf_eq, hL, show ((double.fractionBits : Nat) : Int) = 52 from rfl]
    generalize hlast : max (place + (L : Int) - 52) (-1074) = last
    have hl0 : -1074 ≤ last := by omega
    have hl1 : place + L - 52 ≤ last := by omega
    have hl2 : last = -1074 ∨ last = place + L - 52 := by omega
    have hlk : last ≤ k := by omega
    -- what is kept
    have key : ∃ kept, Toward.even.cut neg (mag <<< (place - last).toNat) (last - place).toNat = kept ∧ kept < 2 ^ 53 ∧ (2 ^ 52 ≤ kept ∨ last = -1074) ∧ kept * 2 ^ (last + 1074).toNat = M * 2 ^ (k + 1074).toNat := by
      by_cases hp : last ≤ place
      · refine ⟨mag * 2 ^ (place - last).toNat, ?_, ?_, ?_, ?_⟩
        · rw [show (last - place).toNat = 0 from by omega, Nat.shiftLeft_eq]
          simp [Toward.cut, Nat.mod_one]
        · calc mag * 2 ^ (place - last).toNat < 2 ^ (L + 1) * 2 ^ (place - last).toNat := Nat.mul_lt_mul_of_pos_right hL2 (pow_pos' _)
            _ = 2 ^ (L + 1 + (place - last).toNat) := (Nat.pow_add ..).symm
            _ ≤ 2 ^ 53 := pow_le_of (by omega)
        · rcases hl2 with h2 | h2
          · exact Or.inr h2
          · left
            calc 2 ^ 52 = 2 ^ (L + (place - last).toNat) := by congr 1; omega
              _ = 2 ^ L * 2 ^ (place - last).toNat := Nat.pow_add ..
              _ ≤ mag * 2 ^ (place - last).toNat := Nat.mul_le_mul_right _ hL1
        · rw [Nat.mul_assoc, ← Nat.pow_add]
          exact shift_eq h (by omega)
      · have hmag : mag * 2 ^ 0 = M * 2 ^ (k - place).toNat := shift_eq h (by omega)
        have hmag2 : mag = (M * 2 ^ (k - last).toNat) * 2 ^ (last - place).toNat := by
          rw [Nat.mul_assoc, ← Nat.pow_add, show (k - last).toNat + (last - place).toNat = (k - place).toNat from by omega, ← hmag]; simp
        generalize hq : M * 2 ^ (k - last).toNat = q at hmag2
        have hq0 : 0 < q := by
          rcases Nat.eq_zero_or_pos q with h0 | h0
          · rw [h0] at hmag2; omega
          · exact h0
        have hdrop : (last - place).toNat < L + 1 := by
          apply pow_lt_of
          calc 2 ^ (last - place).toNat = 1 * 2 ^ (last - place).toNat := (Nat.one_mul _).symm
            _ ≤ q * 2 ^ (last - place).toNat := Nat.mul_le_mul_right _ hq0
            _ = mag := hmag2.symm
            _ < _ := hL2
        refine ⟨q, ?_, ?_, ?_, ?_⟩
        · rw [show (place - last).toNat = 0 from by omega]
          simp only [Nat.shiftLeft_zero]
          unfold Toward.cut
          dsimp only
          rw [hL, Nat.min_eq_left (by omega), Nat.shiftLeft_eq, Nat.one_mul]
          have e1 : mag / 2 ^ (last - place).toNat = q := by rw [hmag2]; exact Nat.mul_div_cancel _ (pow_pos' _)
          have e2 : mag % 2 ^ (last - place).toNat = 0 := by rw [hmag2]; exact Nat.mul_mod_left ..
          rw [e1, e2]
          have hg := pow_pos' (last - place).toNat
          have f1 : (decide (2 ^ (last - place).toNat < 2 * 0)) = false := by simp
          have f2 : (2 ^ (last - place).toNat == 2 * 0) = false := by simp
          rw [f1, f2]; simp
        · have : q * 2 ^ (last - place).toNat < 2 ^ 53 * 2 ^ (last - place).toNat := by
            rw [← hmag2, ← Nat.pow_add]
            exact Nat.lt_of_lt_of_le hL2 (pow_le_of (by omega))
          exact Nat.lt_of_mul_lt_mul_right this
        · rcases hl2 with h2 | h2
          · exact Or.inr h2
          · left
            have : 2 ^ 52 * 2 ^ (last - place).toNat ≤ q * 2 ^ (last - place).toNat := by
              rw [← hmag2, ← Nat.pow_add, show 52 + (last - place).toNat = L from by omega]; exact hL1
            exact Nat.le_of_mul_le_mul_right this (pow_pos' _)
        · rw [← hq, Nat.mul_assoc, ← Nat.pow_add]; congr 2; omega
    obtain ⟨kept, hc, hk53, hnorm, hval⟩ := key
    rw [hc]
    refine ⟨kept, (last + 1074).toNat, by omega, hk53, ?_, hval⟩
    have hmin : min ((last - -1074).toNat * 2 ^ 52 + kept) (2047 * 2 ^ 52) = (last + 1074).toNat * 2 ^ 52 + kept := by
      rw [show last - -1074 = last + 1074 from by omega]; exact Nat.min_eq_left (by omega)
    rw [hmin]
    exact read_word neg kept _ hk53 (by rcases hnorm with h' | h'; exact Or.inl h'; right; omega) (by omega)

/-- a word that stands for a number -/
def Num (x : Nat) : Prop := ∃ s m p, double.read x = .number s m p
/-- its value, in units of 2^-1074 -/
def V (x : Nat) : Int := match double.read x with | .number s m p => signed s m (p + 1074).toNat | _ => 0

theorem place_ge {x : Nat} {s : Bool} {m : Nat} {p : Int} (h : double.read x = .number s m p) : -1074 ≤ p := by
  unfold Format.read at h
  simp only [sw_eq, binade_eq, inf_eq, least_eq] at h
  split at h
  · cases h; omega
  · split at h
    · cases h; omega
    · split at h <;> cases h

theorem V_of {x : Nat} {s : Bool} {m : Nat} {p : Int} (h : double.read x = .number s m p) : V x = signed s m (p + 1074).toNat := by unfold V; rw [h]

theorem signed_eq (s : Bool) (m u : Nat) : signed s m u = (if s then -1 else 1) * ((m * 2 ^ u : Nat) : Int) := by
  unfold signed; rw [Nat.shiftLeft_eq]; cases s <;> simp
theorem signed_add (s : Bool) (m u v : Nat) : signed s m (u + v) = signed s m u * ((2 ^ v : Nat) : Int) := by
  rw [signed_eq, signed_eq, Nat.pow_add, ← Nat.mul_assoc, Int.natCast_mul, Int.mul_assoc]
theorem signed_natAbs (s : Bool) (m u : Nat) : (signed s m u).natAbs = m * 2 ^ u := by
  rw [signed_eq]; cases s
  · rw [if_neg (by decide), Int.one_mul]; rfl
  · rw [if_pos rfl, Int.neg_mul, Int.one_mul, Int.natAbs_neg]; rfl
theorem signed_zero (s : Bool) (u : Nat) : signed s 0 u = 0 := by rw [signed_eq]; simp

theorem compare_mul (a b : Int) (k : Nat) (hk : 0 < k) : compare (a * (k : Int)) (b * (k : Int)) = compare a b := by
  have hk' : (0 : Int) < (k : Int) := by omega
  rcases Int.lt_trichotomy a b with h | h | h
  · rw [Int.compare_eq_lt.2 h, Int.compare_eq_lt.2 (Int.mul_lt_mul_of_pos_right h hk')]
  · subst h; rw [Int.compare_eq_eq.2 rfl, Int.compare_eq_eq.2 rfl]
  · rw [Int.compare_eq_gt.2 h, Int.compare_eq_gt.2 (Int.mul_lt_mul_of_pos_right h hk')]

/-- THE ORDER IS THAT OF THE VALUES. -/
theorem order_fin {x y : Nat} (hx : Num x) (hy : Num y) : double.order x y = some (compare (V x) (V y)) := by
  obtain ⟨s, m, i, hx⟩ := hx
  obtain ⟨t, n, j, hy⟩ := hy
  have gi := place_ge hx
  have gj := place_ge hy
  unfold Format.order
  rw [hx, hy, V_of hx, V_of hy]
  simp only [Datum.order]
  have e1 : (i + 1074).toNat = (i - min i j).toNat + (min i j + 1074).toNat := by omega
  have e2 : (j + 1074).toNat = (j - min i j).toNat + (min i j + 1074).toNat := by omega
  rw [e1, e2, signed_add, signed_add, compare_mul _ _ _ (pow_pos' _)]

/-- a value that a word can hold -/
def Rep (T : Int) : Prop := ∃ M k : Nat, M < 2 ^ 53 ∧ k ≤ 2045 ∧ T.natAbs = M * 2 ^ k

theorem signed_of (s : Bool) (m u : Nat) (T : Int) (h : m * 2 ^ u = T.natAbs) (hs : T ≠ 0 → s = decide (T < 0)) : signed s m u = T := by
  rw [signed_eq, h]
  by_cases h0 : T = 0
  · subst h0; simp
  · rw [hs h0]
    by_cases hneg : T < 0
    · simp [hneg]; omega
    · simp [hneg]; omega

/-- a number of a value that a word can hold, written -/
theorem write_exact {T : Int} (hT : Rep T) (neg : Bool) (mag : Nat) (place : Int) (hp : -1074 ≤ place) (hmag : mag * 2 ^ (place + 1074).toNat = T.natAbs) (hs : T ≠ 0 → neg = decide (T < 0)) :
    Num (double.nearest neg mag place) ∧ V (double.nearest neg mag place) = T := by
  obtain ⟨M, k, hM, hk, hTM⟩ := hT
  obtain ⟨kept, e, he, hkept, hread, hval⟩ := nearest_exact neg mag place M ((k : Int) - 1074) hM (by omega) (by omega) (place + 1074).toNat k (by omega) (by rw [hmag, hTM])
  refine ⟨⟨_, _, _, hread⟩, ?_⟩
  rw [V_of hread]
  refine signed_of _ _ _ _ ?_ hs
  rw [show ((e : Int) - 1074 + 1074).toNat = e from by omega, hval, hTM]
  congr 2
  omega

theorem write_lt' (neg : Bool) (mag : Nat) (place : Int) : double.nearest neg mag place < 2 ^ 64 := double.nearest_lt neg mag place

/-- A SUM THAT A WORD CAN HOLD IS EXACT. -/
theorem add_exact {x y : Nat} (hx : Num x) (hy : Num y) (h : Rep (V x + V y)) : ∃ r, double.add x y = some r ∧ Num r ∧ V r = V x + V y := by
  obtain ⟨s, m, i, hx⟩ := hx
  obtain ⟨t, n, j, hy⟩ := hy
  have gi := place_ge hx
  have gj := place_ge hy
  unfold Format.add
  rw [hx, hy]
  rw [V_of hx, V_of hy] at h ⊢
  have e1 : (i + 1074).toNat = (i - min i j).toNat + (min i j + 1074).toNat := by omega
  have e2 : (j + 1074).toNat = (j - min i j).toNat + (min i j + 1074).toNat := by omega
  rw [e1, e2, signed_add, signed_add, ← Int.add_mul] at h ⊢
  simp only [Datum.sum, Option.map_some, Format.write]
  generalize signed s m (i - min i j).toNat + signed t n (j - min i j).toNat = total at h ⊢
  refine ⟨_, rfl, write_exact h _ _ _ (by omega) ?_ ?_⟩
  · rw [Int.natAbs_mul]; rfl
  · intro hne
    have hp : (0 : Int) < ((2 ^ (min i j + 1074).toNat : Nat) : Int) := by have := pow_pos' (min i j + 1074).toNat; omega
    have h0 : total ≠ 0 := by intro h0; rw [h0] at hne; simp at hne
    rw [if_neg h0]
    congr 1
    apply propext
    constructor
    · intro hh; exact Int.mul_neg_of_neg_of_pos hh hp
    · intro hh
      apply Classical.byContradiction
      intro hc
      have := Int.mul_nonneg (show 0 ≤ total from by omega) (Int.le_of_lt hp)
      omega

theorem read_opp {y : Nat} {t : Bool} {n : Nat} {j : Int} (hy : double.read y = .number t n j) : (double.read y).opposite = .number (!t) n j := by rw [hy]; rfl
theorem signed_not (s : Bool) (m u : Nat) : signed (!s) m u = - signed s m u := by unfold signed; cases s <;> simp

/-- A DIFFERENCE THAT A WORD CAN HOLD IS EXACT. -/
theorem sub_exact {x y : Nat} (hx : Num x) (hy : Num y) (h : Rep (V x - V y)) : ∃ r, double.sub x y = some r ∧ Num r ∧ V r = V x - V y := by
  obtain ⟨s, m, i, hx⟩ := hx
  obtain ⟨t, n, j, hy⟩ := hy
  have gi := place_ge hx
  have gj := place_ge hy
  unfold Format.sub
  rw [hx, read_opp hy]
  rw [V_of hx, V_of hy] at h ⊢
  have e1 : (i + 1074).toNat = (i - min i j).toNat + (min i j + 1074).toNat := by omega
  have e2 : (j + 1074).toNat = (j - min i j).toNat + (min i j + 1074).toNat := by omega
  rw [e1, e2, signed_add, signed_add, ← Int.sub_mul] at h ⊢
  simp only [Datum.sum, Option.map_some, Format.write]
  rw [signed_not, ← Int.sub_eq_add_neg]
  generalize signed s m (i - min i j).toNat - signed t n (j - min i j).toNat = total at h ⊢
  refine ⟨_, rfl, write_exact h _ _ _ (by omega) ?_ ?_⟩
  · rw [Int.natAbs_mul]; rfl
  · intro hne
    have hp : (0 : Int) < ((2 ^ (min i j + 1074).toNat : Nat) : Int) := by have := pow_pos' (min i j + 1074).toNat; omega
    have h0 : total ≠ 0 := by intro h0; rw [h0] at hne; simp at hne
    rw [if_neg h0]
    congr 1
    apply propext
    constructor
    · intro hh; exact Int.mul_neg_of_neg_of_pos hh hp
    · intro hh
      apply Classical.byContradiction
      intro hc
      have := Int.mul_nonneg (show 0 ≤ total from by omega) (Int.le_of_lt hp)
      omega

/-- one, in units of 2^-1074 -/
def pw (k : Nat) : Int := ((2 ^ k : Nat) : Int)
theorem pw_natAbs (k : Nat) : (pw k).natAbs = 2 ^ k := by unfold pw; rfl
theorem pw_pos (k : Nat) : 0 < pw k := by unfold pw; have := pow_pos' k; omega
theorem compare_pw (a b : Int) (k : Nat) : compare (a * pw k) (b * pw k) = compare a b := compare_mul _ _ _ (pow_pos' k)
@[irreducible] def U : Int := pw 1074
theorem U_eq : U = pw 1074 := by unfold U; rfl
theorem U_pos : 0 < U := by rw [U_eq]; exact pw_pos 1074
theorem U_natAbs : U.natAbs = 2 ^ 1074 := by rw [U_eq]; exact pw_natAbs 1074
theorem U_abs : ∃ u : Nat, u = 1074 ∧ U.natAbs = 2 ^ u := ⟨1074, rfl, U_natAbs⟩
theorem compare_U (a b : Int) : compare (a * U) (b * U) = compare a b := by rw [U_eq]; exact compare_pw a b 1074

/-- A PRODUCT THAT A WORD CAN HOLD IS EXACT ('T' is the product's value). -/
theorem mul_exact {x y : Nat} (hx : Num x) (hy : Num y) (T : Int) (hT : T * U = V x * V y) (h : Rep T) : ∃ r, double.mul x y = some r ∧ Num r ∧ V r = T := by
  obtain ⟨s, m, i, hx⟩ := hx
  obtain ⟨t, n, j, hy⟩ := hy
  have gi := place_ge hx
  have gj := place_ge hy
  unfold Format.mul
  rw [hx, hy]
  rw [V_of hx, V_of hy] at hT
  simp only [Datum.product, Option.map_some, Format.write]
  obtain ⟨M, k, hM, hk, hTM⟩ := h
  obtain ⟨u, hu, hU⟩ := U_abs
  have hnat : m * n * 2 ^ ((i + 1074).toNat + (j + 1074).toNat) = M * 2 ^ (k + u) := by
    have := congrArg Int.natAbs hT
    rw [Int.natAbs_mul, Int.natAbs_mul, signed_natAbs, signed_natAbs, hTM, hU, Nat.mul_assoc, ← Nat.pow_add] at this
    rw [this, Nat.pow_add]
    simp only [Nat.mul_assoc, Nat.mul_left_comm]
  obtain ⟨kept, e, he, hkept, hread, hval⟩ := nearest_exact (s ^^ t) (m * n) (i + j) M ((k : Int) - 1074) hM (by omega) (by omega) _ _ (by omega) hnat
  refine ⟨_, rfl, ⟨_, _, _, hread⟩, ?_⟩
  rw [V_of hread]
  refine signed_of _ _ _ _ ?_ ?_
  · rw [show ((e : Int) - 1074 + 1074).toNat = e from by omega, hval, hTM]
    congr 2
    omega
  · intro hne
    have hp := U_pos
    have e3 : signed s m (i + 1074).toNat * signed t n (j + 1074).toNat = (if s ^^ t then -1 else 1) * ((m * 2 ^ (i + 1074).toNat * (n * 2 ^ (j + 1074).toNat) : Nat) : Int) := by
      rw [signed_eq, signed_eq, Int.natCast_mul (m * 2 ^ (i + 1074).toNat)]
      cases s <;> cases t <;> simp [Int.neg_mul, Int.mul_neg]
    rw [e3] at hT
    generalize m * 2 ^ (i + 1074).toNat * (n * 2 ^ (j + 1074).toNat) = q at hT
    have hneg : T < 0 ↔ T * U < 0 := by
      constructor
      · intro hh; exact Int.mul_neg_of_neg_of_pos hh hp
      · intro hh
        apply Classical.byContradiction
        intro hc
        have := Int.mul_nonneg (show 0 ≤ T from by omega) (Int.le_of_lt hp)
        omega
    have hne' : T * U ≠ 0 := Int.mul_ne_zero hne (by omega)
    rw [hT] at hneg hne'
    cases hst : (s ^^ t)
    · rw [hst] at hneg hne'
      simp at hneg hne'
      symm; simp; omega
    · rw [hst] at hneg hne'
      simp at hneg hne'
      symm; simp; omega

/-! ### whole numbers -/
/-- the word stands for the whole number 'n' -/
def W (x : Nat) (n : Int) : Prop := Num x ∧ V x = n * U

theorem rep_whole (n : Int) (h : n.natAbs ≤ 2 ^ 53) : Rep (n * U) := by
  by_cases h53 : n.natAbs = 2 ^ 53
  · obtain ⟨u, hu, hU⟩ := U_abs
    refine ⟨2 ^ 52, u + 1, by omega, by omega, ?_⟩
    rw [Int.natAbs_mul, h53, hU, Nat.pow_add]
    omega
  · refine ⟨n.natAbs, 1074, by omega, by omega, ?_⟩
    rw [Int.natAbs_mul, U_natAbs]

theorem W.fin {x : Nat} {n : Int} (h : W x n) : Num x := h.1
theorem W.add {x y : Nat} {n m : Int} (hx : W x n) (hy : W y m) (h : (n + m).natAbs ≤ 2 ^ 53) : ∃ r, double.add x y = some r ∧ W r (n + m) := by
  have e : V x + V y = (n + m) * U := by rw [hx.2, hy.2, Int.add_mul]
  obtain ⟨r, h1, h2, h3⟩ := add_exact hx.1 hy.1 (by rw [e]; exact rep_whole _ h)
  exact ⟨r, h1, h2, by rw [h3, e]⟩
theorem W.sub {x y : Nat} {n m : Int} (hx : W x n) (hy : W y m) (h : (n - m).natAbs ≤ 2 ^ 53) : ∃ r, double.sub x y = some r ∧ W r (n - m) := by
  have e : V x - V y = (n - m) * U := by rw [hx.2, hy.2, Int.sub_mul]
  obtain ⟨r, h1, h2, h3⟩ := sub_exact hx.1 hy.1 (by rw [e]; exact rep_whole _ h)
  exact ⟨r, h1, h2, by rw [h3, e]⟩
theorem W.mul {x y : Nat} {n m : Int} (hx : W x n) (hy : W y m) (h : (n * m).natAbs ≤ 2 ^ 53) : ∃ r, double.mul x y = some r ∧ W r (n * m) := by
  have e : n * m * U * U = V x * V y := by rw [hx.2, hy.2]; simp only [Int.mul_assoc, Int.mul_left_comm]
  obtain ⟨r, h1, h2, h3⟩ := mul_exact hx.1 hy.1 (n * m * U) e (rep_whole _ h)
  exact ⟨r, h1, h2, h3⟩
theorem W.order {x y : Nat} {n m : Int} (hx : W x n) (hy : W y m) : double.order x y = some (compare n m) := by
  rw [order_fin hx.1 hy.1, hx.2, hy.2, compare_U]
theorem W.ofInt (n : Int) (h : n.natAbs ≤ 2 ^ 53) : W (floatOfInt .f64 n) n := by
  have := write_exact (rep_whole n h) (decide (n < 0)) n.natAbs 0 (by omega) (by rw [Int.natAbs_mul, U_natAbs]; congr 2) (fun hne => by
    have hp := U_pos
    congr 1
    apply propext
    constructor
    · intro hh; exact Int.mul_neg_of_neg_of_pos hh hp
    · intro hh
      apply Classical.byContradiction
      intro hc
      have := Int.mul_nonneg (show 0 ≤ n from by omega) (Int.le_of_lt hp)
      omega)
  exact this
theorem W.inj {x : Nat} {n m : Int} (h : W x n) (h' : W x m) : n = m := by
  have := h.2.symm.trans h'.2
  exact Int.eq_of_mul_eq_mul_right (by have := U_pos; omega) this

theorem W.zero : W 0 0 := by
  have h : double.read 0 = .number false 0 (-1074) := by decide +kernel
  exact ⟨⟨_, _, _, h⟩, by rw [V_of h, signed_zero, Int.zero_mul]⟩

theorem cmp_lt (a b : Int) : (some (compare a b) == some Ordering.lt) = decide (a < b) := by
  rcases Int.lt_trichotomy a b with h | h | h
  · rw [Int.compare_eq_lt.2 h, decide_eq_true h]; rfl
  · rw [Int.compare_eq_eq.2 h, decide_eq_false (by omega)]; rfl
  · rw [Int.compare_eq_gt.2 h, decide_eq_false (by omega)]; rfl
theorem cmp_gt (a b : Int) : (some (compare a b) == some Ordering.gt) = decide (b < a) := by
  rcases Int.lt_trichotomy a b with h | h | h
  · rw [Int.compare_eq_lt.2 h, decide_eq_false (by omega)]; rfl
  · rw [Int.compare_eq_eq.2 h, decide_eq_false (by omega)]; rfl
  · rw [Int.compare_eq_gt.2 h, decide_eq_true h]; rfl
theorem cmp_eq (a b : Int) : (some (compare a b) == some Ordering.eq) = decide (a = b) := by
  rcases Int.lt_trichotomy a b with h | h | h
  · rw [Int.compare_eq_lt.2 h, decide_eq_false (by omega)]; rfl
  · rw [Int.compare_eq_eq.2 h, decide_eq_true h]; rfl
  · rw [Int.compare_eq_gt.2 h, decide_eq_false (by omega)]; rfl

/-! the six comparisons, in the walk's spelling, of finite words -/
theorem fin_lt {x y : Nat} (hx : Num x) (hy : Num y) : (FloatKind.f64.format.order x y == some .lt) = decide (V x < V y) := by
  show (double.order x y == some .lt) = _
  rw [order_fin hx hy]; exact cmp_lt _ _
theorem fin_gt {x y : Nat} (hx : Num x) (hy : Num y) : (FloatKind.f64.format.order x y == some .gt) = decide (V y < V x) := by
  show (double.order x y == some .gt) = _
  rw [order_fin hx hy]; exact cmp_gt _ _
theorem fin_eq {x y : Nat} (hx : Num x) (hy : Num y) : (FloatKind.f64.format.order x y == some .eq) = decide (V x = V y) := by
  show (double.order x y == some .eq) = _
  rw [order_fin hx hy]; exact cmp_eq _ _
theorem fin_ne {x y : Nat} (hx : Num x) (hy : Num y) : (FloatKind.f64.format.order x y != some .eq) = decide (V x ≠ V y) := by
  show (!(FloatKind.f64.format.order x y == some .eq)) = _
  rw [fin_eq hx hy]; simp
theorem fin_le {x y : Nat} (hx : Num x) (hy : Num y) : (FloatKind.f64.format.order x y == some .lt || FloatKind.f64.format.order x y == some .eq) = decide (V x ≤ V y) := by
  rw [fin_eq hx hy, fin_lt hx hy, ← Bool.decide_or]; congr 1; apply propext; omega
theorem fin_ge {x y : Nat} (hx : Num x) (hy : Num y) : (FloatKind.f64.format.order x y == some .gt || FloatKind.f64.format.order x y == some .eq) = decide (V y ≤ V x) := by
  rw [fin_eq hx hy, fin_gt hx hy, ← Bool.decide_or]; congr 1; apply propext; omega

theorem W.v_lt {x y : Nat} {n m : Int} (hx : W x n) (hy : W y m) : V x < V y ↔ n < m := by
  rw [hx.2, hy.2]
  have hp := U_pos
  constructor
  · intro h; exact Int.lt_of_mul_lt_mul_right h (Int.le_of_lt hp)
  · intro h; exact Int.mul_lt_mul_of_pos_right h hp
theorem W.v_eq {x y : Nat} {n m : Int} (hx : W x n) (hy : W y m) : V x = V y ↔ n = m := by
  have h1 := W.v_lt hx hy
  have h2 := W.v_lt hy hx
  omega
theorem W.v_le {x y : Nat} {n m : Int} (hx : W x n) (hy : W y m) : V x ≤ V y ↔ n ≤ m := by
  have h2 := W.v_lt hy hx
  omega
theorem W.lt {x y : Nat} {n m : Int} (hx : W x n) (hy : W y m) : (FloatKind.f64.format.order x y == some .lt) = decide (n < m) := by
  rw [fin_lt hx.1 hy.1]; congr 1; exact propext (W.v_lt hx hy)
theorem W.gt {x y : Nat} {n m : Int} (hx : W x n) (hy : W y m) : (FloatKind.f64.format.order x y == some .gt) = decide (m < n) := by
  rw [fin_gt hx.1 hy.1]; congr 1; exact propext (W.v_lt hy hx)
theorem W.eq {x y : Nat} {n m : Int} (hx : W x n) (hy : W y m) : (FloatKind.f64.format.order x y == some .eq) = decide (n = m) := by
  rw [fin_eq hx.1 hy.1]; congr 1; exact propext (W.v_eq hx hy)
theorem W.ne {x y : Nat} {n m : Int} (hx : W x n) (hy : W y m) : (FloatKind.f64.format.order x y != some .eq) = decide (n ≠ m) := by
  rw [fin_ne hx.1 hy.1]; congr 1; exact propext (not_congr (W.v_eq hx hy))
theorem W.le {x y : Nat} {n m : Int} (hx : W x n) (hy : W y m) : (FloatKind.f64.format.order x y == some .lt || FloatKind.f64.format.order x y == some .eq) = decide (n ≤ m) := by
  rw [fin_le hx.1 hy.1]; congr 1; exact propext (W.v_le hx hy)
theorem W.ge {x y : Nat} {n m : Int} (hx : W x n) (hy : W y m) : (FloatKind.f64.format.order x y == some .gt || FloatKind.f64.format.order x y == some .eq) = decide (m ≤ n) := by
  rw [fin_ge hx.1 hy.1]; congr 1; exact propext (W.v_le hy hx)
end Go.Proofs.Ytmgomieffmbmiaa.Fl
