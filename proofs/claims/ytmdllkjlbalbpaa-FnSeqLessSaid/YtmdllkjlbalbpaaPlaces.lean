/-
  'spec.Places': the places of a leaf's numbers.
-/
import Derived.Test.YtmdllkjlbalbpaaWidth
import Derived.Test.YtmdllkjlbalbpaaAppend
import Derived.Deep.RegionHeld3
import Derived.Deep.DrawnRows
import Derived.Deep.DeepMust
namespace Go.Proofs.Ytmdllkjlbalbpaa.Pl
open Go.ChangeShapes Go.WideShapes Go.ChangeAt Go.RowKit Go.Sort
open Wd
attribute [local irreducible] wpQuiet
attribute [local go_sem ↓] Go.wp_at_zero Go.wp_at_succ

theorem and_01 : bits .and .i64 0 1 = 0 := by decide +kernel
theorem and_02 : bits .and .i64 0 2 = 0 := by decide +kernel
theorem and_03 : bits .and .i64 0 3 = 0 := by decide +kernel
theorem and_11 : bits .and .i64 1 1 = 1 := by decide +kernel
theorem and_12 : bits .and .i64 1 2 = 0 := by decide +kernel
theorem and_13 : bits .and .i64 1 3 = 1 := by decide +kernel
theorem and_21 : bits .and .i64 2 1 = 0 := by decide +kernel
theorem and_22 : bits .and .i64 2 2 = 2 := by decide +kernel
theorem and_23 : bits .and .i64 2 3 = 2 := by decide +kernel
theorem and_31 : bits .and .i64 3 1 = 1 := by decide +kernel
theorem and_32 : bits .and .i64 3 2 = 2 := by decide +kernel
theorem and_33 : bits .and .i64 3 3 = 3 := by decide +kernel
attribute [local go_sem ↓] and_01 and_02 and_03 and_11 and_12 and_13 and_21 and_22 and_23 and_31 and_32 and_33

def gd (nums : List Nat) (i : Nat) : Nat := nums.getD i 0
/-- the four numbers of a place -/
def pX (d : Nat) (nums : List Nat) (i : Nat) : Nat := gd nums (i * wd d)
def pY (d : Nat) (nums : List Nat) (i : Nat) : Nat := gd nums (i * wd d + 1)
def pZ (d : Nat) (nums : List Nat) (i : Nat) : Nat := if d % 2 = 1 then gd nums (i * wd d + 2) else 0
def pM (d : Nat) (nums : List Nat) (i : Nat) : Nat := if 2 ≤ d then gd nums (i * wd d + (wd d - 1)) else 0
def placeCells (d : Nat) (nums : List Nat) (i : Nat) : List Value := [fl (pX d nums i), fl (pY d nums i), fl (pZ d nums i), fl (pM d nums i)]
def placesCells (d : Nat) (nums : List Nat) (n : Nat) : List Value := (List.range n).flatMap (placeCells d nums)

theorem placesCells_succ (d : Nat) (nums : List Nat) (n : Nat) : placesCells d nums (n + 1) = placesCells d nums n ++ placeCells d nums n := by
  unfold placesCells; rw [List.range_succ, List.flatMap_append]; simp

theorem info_place : (Try.prog.info? 63).map (fun i => (i.zero, i.size, i.bytes)) = some (some (.agg #[.float .f64 0, .float .f64 0, .float .f64 0, .float .f64 0]), 4, 32) := by kernel_rfl

/-- a slice of floats in memory: the cell of a number -/
theorem row_num {w : World} {BB : Nat} {A : Option Addr} {nums : List Nat} (h : Row w BB A (nums.map fl)) {i : Nat} (hi : i < nums.length) : ∃ b o, A = some ⟨b, o, none⟩ ∧ b < BB ∧ w.cell? ⟨b, o + i, none⟩ = some (fl (gd nums i)) := by
  obtain ⟨b, o, rfl, hb, hc⟩ := h.at_ (by simp; omega)
  refine ⟨b, o, rfl, hb, ?_⟩
  rw [hc i (by simpa using hi)]
  simp [gd, hi]

set_option maxRecDepth 100000 in
set_option maxHeartbeats 8000000 in
theorem places_0 (A : Option Addr) (n c : Nat) (nums : List Nat) (hn : nums.length = n) (hn2 : n ≤ 100000) (w : World) (h : Row w w.heap.size A (nums.map fl)) :
    Calls Try.prog 49 #[.slice A n c, .int .i64 0] w fun e w' => ∃ v, e = .returned v ∧ w'.ownsRow w.heap.size 63 4 v (n / 2) (placesCells 0 nums (n / 2)) ∧ Below w.heap.size w w' := by
  obtain ⟨i0, hi0, hz0, hz1, hz2⟩ := info_parts info_place
  have h' := Lib.hid h
  clear h
  go_enter Try.func49, Try.ntmps49
  have hW : ∀ w, Calls Try.prog 68 #[.int .i64 0] w fun e w' => e = .returned (.int .i64 2) ∧ w = w' := fun w => width_any 0 (by decide) w
  go_wp2_with (first | (go_at_call 68; refine (hW _).mono ?_; rintro e w' ⟨rfl, rfl⟩) | fail)
  clear hW
  go_loopw [5, 7] (fun v i wr => ∃ k : Nat, k ≤ n / 2 ∧ i = .int .i64 ((k * 2 : Nat) : Int) ∧ wr.ownsRow w.heap.size 63 4 v k (placesCells 0 nums k) ∧ Below w.heap.size w wr) (fun _ i _ => n - (intOf i).toNat)
  case atStart => exact ⟨0, Nat.zero_le _, by simp, ⟨rfl, Or.inl ⟨rfl, rfl⟩⟩, Below.refl _ _⟩
  case round =>
    obtain ⟨k, hk, rfl, hown, hb⟩ := hrel
    by_cases hlt : k < n / 2
    · have hpl := Lib.hid (placesCells_succ 0 nums k)
      unfold placeCells at hpl
      have hp : Hid ([fl (pX 0 nums k), fl (pY 0 nums k), fl (pZ 0 nums k), fl (pM 0 nums k)] = [fl (gd nums (k * 2)), fl (gd nums (k * 2 + 1)), fl 0, fl 0]) := rfl
      rw [hp.out] at hpl
      clear hp
      obtain ⟨m, hm⟩ : ∃ m, k * 2 = m := ⟨_, rfl⟩
      rw [hm] at hpl ⊢
      have z0 : (m : Int) + 2 ≤ (n : Int) := by omega
      have z1 : (m : Int) < (n : Int) := by omega
      have z3 : (m : Int) ≤ 100000 := by omega
      have z4 : (0 : Int) ≤ (m : Int) := by omega
      have y1 : (m : Int) + 1 < (n : Int) := by omega
      have x1 : (0 : Int) ≤ (m : Int) + 1 := by omega
      obtain ⟨b, o, rfl, hbb, c0⟩ := row_num h'.out (i := m) (by omega)
      obtain ⟨b', o', eq, -, c1⟩ := row_num h'.out (i := m + 1) (by omega)
      injection eq with eq
      injection eq with eq1 eq2
      subst eq1 eq2
      rw [← hb.cell hbb] at c0 c1
      have hbz : b < wr.heap.size := Nat.lt_of_lt_of_le hbb hb.size
      have n0 := World.new_ne wr _ c0
      have n1 := World.new_ne wr _ c1
      have q1 : IntKind.i64.wrap ((m : Int) + 1) = (m : Int) + 1 := by rw [IntKind.wrap_i64]; omega
      go_wp2_with fail
      go_region_held (fun w' => w'.cell? ⟨b, o + m, none⟩ = some (fl (gd nums m)) ∧ w'.cell? ⟨b, o + (m + 1), none⟩ = some (fl (gd nums (m + 1)))) (go_keep) (fail)
      clear q1
      have hbw := hb.size
      go_wp2_with (at_builtin; go_must (refine wpList_append_newD rfl _ _ _ rfl w.heap.size i0 _ 4 32 Try.underlying54 hi0 hz0 hz1 hz2 rfl (by omega) _ k _ rfl (own_keep hown (by (repeat first | exact Below.refl _ _ | refine Below.drew ?_ | refine Below.setCell ?_ (by simp) _ | refine Below.alloc ?_ (by simp <;> omega) _))) (wr.heap.size + 1) (by simp) rfl rfl (by simp [Value.oneCell']) (by unfold maxLen; omega) (by omega) (by simp <;> omega) ?_); intro g cap w1 hown2 hb2; clear hown)
      go_roundw
      case rel =>
        refine ⟨k + 1, by omega, by rw [Nat.add_mul, hm]; go_num, ?_, ?_⟩
        · rw [hpl.out]; exact hown2
        · refine hb.trans (Below.trans ?_ hb2)
          refine Below.mono (B := wr.heap.size) ?_ hbw
          (repeat first | exact Below.refl _ _ | refine Below.drew ?_ | refine Below.setCell ?_ (by simp) _ | refine Below.alloc ?_ (by simp <;> omega) _)
      case measure => simp [intOf]; omega
    · have e1 : k = n / 2 := by omega
      have e2 : ¬ ((k * 2 : Nat) : Int) + 2 ≤ (n : Int) := by omega
      have e3 : ((k * 2 : Nat) : Int) ≤ 100000 := by omega
      generalize k * 2 = m at e2 e3
      go_wp2_with fail
      go_ret
      exact ⟨_, rfl, by rw [← e1]; exact hown, hb⟩

set_option maxRecDepth 100000 in
set_option maxHeartbeats 8000000 in
theorem places_1 (A : Option Addr) (n c : Nat) (nums : List Nat) (hn : nums.length = n) (hn2 : n ≤ 100000) (w : World) (h : Row w w.heap.size A (nums.map fl)) :
    Calls Try.prog 49 #[.slice A n c, .int .i64 1] w fun e w' => ∃ v, e = .returned v ∧ w'.ownsRow w.heap.size 63 4 v (n / 3) (placesCells 1 nums (n / 3)) ∧ Below w.heap.size w w' := by
  obtain ⟨i0, hi0, hz0, hz1, hz2⟩ := info_parts info_place
  have h' := Lib.hid h
  clear h
  go_enter Try.func49, Try.ntmps49
  have hW : ∀ w, Calls Try.prog 68 #[.int .i64 1] w fun e w' => e = .returned (.int .i64 3) ∧ w = w' := fun w => width_any 1 (by decide) w
  go_wp2_with (first | (go_at_call 68; refine (hW _).mono ?_; rintro e w' ⟨rfl, rfl⟩) | fail)
  clear hW
  go_loopw [5, 7] (fun v i wr => ∃ k : Nat, k ≤ n / 3 ∧ i = .int .i64 ((k * 3 : Nat) : Int) ∧ wr.ownsRow w.heap.size 63 4 v k (placesCells 1 nums k) ∧ Below w.heap.size w wr) (fun _ i _ => n - (intOf i).toNat)
  case atStart => exact ⟨0, Nat.zero_le _, by simp, ⟨rfl, Or.inl ⟨rfl, rfl⟩⟩, Below.refl _ _⟩
  case round =>
    obtain ⟨k, hk, rfl, hown, hb⟩ := hrel
    by_cases hlt : k < n / 3
    · have hpl := Lib.hid (placesCells_succ 1 nums k)
      unfold placeCells at hpl
      have hp : Hid ([fl (pX 1 nums k), fl (pY 1 nums k), fl (pZ 1 nums k), fl (pM 1 nums k)] = [fl (gd nums (k * 3)), fl (gd nums (k * 3 + 1)), fl (gd nums (k * 3 + 2)), fl 0]) := rfl
      rw [hp.out] at hpl
      clear hp
      obtain ⟨m, hm⟩ : ∃ m, k * 3 = m := ⟨_, rfl⟩
      rw [hm] at hpl ⊢
      have z0 : (m : Int) + 3 ≤ (n : Int) := by omega
      have z1 : (m : Int) < (n : Int) := by omega
      have z3 : (m : Int) ≤ 100000 := by omega
      have z4 : (0 : Int) ≤ (m : Int) := by omega
      have y1 : (m : Int) + 1 < (n : Int) := by omega
      have x1 : (0 : Int) ≤ (m : Int) + 1 := by omega
      have y2 : (m : Int) + 2 < (n : Int) := by omega
      have x2 : (0 : Int) ≤ (m : Int) + 2 := by omega
      obtain ⟨b, o, rfl, hbb, c0⟩ := row_num h'.out (i := m) (by omega)
      obtain ⟨b', o', eq, -, c1⟩ := row_num h'.out (i := m + 1) (by omega)
      injection eq with eq
      injection eq with eq1 eq2
      subst eq1 eq2
      obtain ⟨b', o', eq, -, c2⟩ := row_num h'.out (i := m + 2) (by omega)
      injection eq with eq
      injection eq with eq1 eq2
      subst eq1 eq2
      rw [← hb.cell hbb] at c0 c1 c2
      have hbz : b < wr.heap.size := Nat.lt_of_lt_of_le hbb hb.size
      have n0 := World.new_ne wr _ c0
      have n1 := World.new_ne wr _ c1
      have n2 := World.new_ne wr _ c2
      have q1 : IntKind.i64.wrap ((m : Int) + 1) = (m : Int) + 1 := by rw [IntKind.wrap_i64]; omega
      go_wp2_with fail
      go_region_held (fun w' => w'.cell? ⟨b, o + m, none⟩ = some (fl (gd nums m)) ∧ w'.cell? ⟨b, o + (m + 1), none⟩ = some (fl (gd nums (m + 1))) ∧ w'.cell? ⟨b, o + (m + 2), none⟩ = some (fl (gd nums (m + 2)))) (go_keep) (fail)
      clear q1
      have hbw := hb.size
      go_wp2_with (at_builtin; go_must (refine wpList_append_newD rfl _ _ _ rfl w.heap.size i0 _ 4 32 Try.underlying54 hi0 hz0 hz1 hz2 rfl (by omega) _ k _ rfl (own_keep hown (by (repeat first | exact Below.refl _ _ | refine Below.drew ?_ | refine Below.setCell ?_ (by simp) _ | refine Below.alloc ?_ (by simp <;> omega) _))) (wr.heap.size + 1) (by simp) rfl rfl (by simp [Value.oneCell']) (by unfold maxLen; omega) (by omega) (by simp <;> omega) ?_); intro g cap w1 hown2 hb2; clear hown)
      go_roundw
      case rel =>
        refine ⟨k + 1, by omega, by rw [Nat.add_mul, hm]; go_num, ?_, ?_⟩
        · rw [hpl.out]; exact hown2
        · refine hb.trans (Below.trans ?_ hb2)
          refine Below.mono (B := wr.heap.size) ?_ hbw
          (repeat first | exact Below.refl _ _ | refine Below.drew ?_ | refine Below.setCell ?_ (by simp) _ | refine Below.alloc ?_ (by simp <;> omega) _)
      case measure => simp [intOf]; omega
    · have e1 : k = n / 3 := by omega
      have e2 : ¬ ((k * 3 : Nat) : Int) + 3 ≤ (n : Int) := by omega
      have e3 : ((k * 3 : Nat) : Int) ≤ 100000 := by omega
      generalize k * 3 = m at e2 e3
      go_wp2_with fail
      go_ret
      exact ⟨_, rfl, by rw [← e1]; exact hown, hb⟩

set_option maxRecDepth 100000 in
set_option maxHeartbeats 8000000 in
theorem places_2 (A : Option Addr) (n c : Nat) (nums : List Nat) (hn : nums.length = n) (hn2 : n ≤ 100000) (w : World) (h : Row w w.heap.size A (nums.map fl)) :
    Calls Try.prog 49 #[.slice A n c, .int .i64 2] w fun e w' => ∃ v, e = .returned v ∧ w'.ownsRow w.heap.size 63 4 v (n / 3) (placesCells 2 nums (n / 3)) ∧ Below w.heap.size w w' := by
  obtain ⟨i0, hi0, hz0, hz1, hz2⟩ := info_parts info_place
  have h' := Lib.hid h
  clear h
  go_enter Try.func49, Try.ntmps49
  have hW : ∀ w, Calls Try.prog 68 #[.int .i64 2] w fun e w' => e = .returned (.int .i64 3) ∧ w = w' := fun w => width_any 2 (by decide) w
  go_wp2_with (first | (go_at_call 68; refine (hW _).mono ?_; rintro e w' ⟨rfl, rfl⟩) | fail)
  clear hW
  go_loopw [5, 7] (fun v i wr => ∃ k : Nat, k ≤ n / 3 ∧ i = .int .i64 ((k * 3 : Nat) : Int) ∧ wr.ownsRow w.heap.size 63 4 v k (placesCells 2 nums k) ∧ Below w.heap.size w wr) (fun _ i _ => n - (intOf i).toNat)
  case atStart => exact ⟨0, Nat.zero_le _, by simp, ⟨rfl, Or.inl ⟨rfl, rfl⟩⟩, Below.refl _ _⟩
  case round =>
    obtain ⟨k, hk, rfl, hown, hb⟩ := hrel
    by_cases hlt : k < n / 3
    · have hpl := Lib.hid (placesCells_succ 2 nums k)
      unfold placeCells at hpl
      have hp : Hid ([fl (pX 2 nums k), fl (pY 2 nums k), fl (pZ 2 nums k), fl (pM 2 nums k)] = [fl (gd nums (k * 3)), fl (gd nums (k * 3 + 1)), fl 0, fl (gd nums (k * 3 + 2))]) := rfl
      rw [hp.out] at hpl
      clear hp
      obtain ⟨m, hm⟩ : ∃ m, k * 3 = m := ⟨_, rfl⟩
      rw [hm] at hpl ⊢
      have z0 : (m : Int) + 3 ≤ (n : Int) := by omega
      have z1 : (m : Int) < (n : Int) := by omega
      have z3 : (m : Int) ≤ 100000 := by omega
      have z4 : (0 : Int) ≤ (m : Int) := by omega
      have y1 : (m : Int) + 1 < (n : Int) := by omega
      have x1 : (0 : Int) ≤ (m : Int) + 1 := by omega
      have y2 : (m : Int) + 2 < (n : Int) := by omega
      have x2 : (0 : Int) ≤ (m : Int) + 2 := by omega
      obtain ⟨b, o, rfl, hbb, c0⟩ := row_num h'.out (i := m) (by omega)
      obtain ⟨b', o', eq, -, c1⟩ := row_num h'.out (i := m + 1) (by omega)
      injection eq with eq
      injection eq with eq1 eq2
      subst eq1 eq2
      obtain ⟨b', o', eq, -, c2⟩ := row_num h'.out (i := m + 2) (by omega)
      injection eq with eq
      injection eq with eq1 eq2
      subst eq1 eq2
      rw [← hb.cell hbb] at c0 c1 c2
      have hbz : b < wr.heap.size := Nat.lt_of_lt_of_le hbb hb.size
      have n0 := World.new_ne wr _ c0
      have n1 := World.new_ne wr _ c1
      have n2 := World.new_ne wr _ c2
      have q1 : IntKind.i64.wrap ((m : Int) + 1) = (m : Int) + 1 := by rw [IntKind.wrap_i64]; omega
      go_wp2_with fail
      go_region_held (fun w' => w'.cell? ⟨b, o + m, none⟩ = some (fl (gd nums m)) ∧ w'.cell? ⟨b, o + (m + 1), none⟩ = some (fl (gd nums (m + 1))) ∧ w'.cell? ⟨b, o + (m + 2), none⟩ = some (fl (gd nums (m + 2)))) (go_keep) (fail)
      clear q1
      have hbw := hb.size
      go_wp2_with (at_builtin; go_must (refine wpList_append_newD rfl _ _ _ rfl w.heap.size i0 _ 4 32 Try.underlying54 hi0 hz0 hz1 hz2 rfl (by omega) _ k _ rfl (own_keep hown (by (repeat first | exact Below.refl _ _ | refine Below.drew ?_ | refine Below.setCell ?_ (by simp) _ | refine Below.alloc ?_ (by simp <;> omega) _))) (wr.heap.size + 1) (by simp) rfl rfl (by simp [Value.oneCell']) (by unfold maxLen; omega) (by omega) (by simp <;> omega) ?_); intro g cap w1 hown2 hb2; clear hown)
      go_roundw
      case rel =>
        refine ⟨k + 1, by omega, by rw [Nat.add_mul, hm]; go_num, ?_, ?_⟩
        · rw [hpl.out]; exact hown2
        · refine hb.trans (Below.trans ?_ hb2)
          refine Below.mono (B := wr.heap.size) ?_ hbw
          (repeat first | exact Below.refl _ _ | refine Below.drew ?_ | refine Below.setCell ?_ (by simp) _ | refine Below.alloc ?_ (by simp <;> omega) _)
      case measure => simp [intOf]; omega
    · have e1 : k = n / 3 := by omega
      have e2 : ¬ ((k * 3 : Nat) : Int) + 3 ≤ (n : Int) := by omega
      have e3 : ((k * 3 : Nat) : Int) ≤ 100000 := by omega
      generalize k * 3 = m at e2 e3
      go_wp2_with fail
      go_ret
      exact ⟨_, rfl, by rw [← e1]; exact hown, hb⟩

set_option maxRecDepth 100000 in
set_option maxHeartbeats 8000000 in
theorem places_3 (A : Option Addr) (n c : Nat) (nums : List Nat) (hn : nums.length = n) (hn2 : n ≤ 100000) (w : World) (h : Row w w.heap.size A (nums.map fl)) :
    Calls Try.prog 49 #[.slice A n c, .int .i64 3] w fun e w' => ∃ v, e = .returned v ∧ w'.ownsRow w.heap.size 63 4 v (n / 4) (placesCells 3 nums (n / 4)) ∧ Below w.heap.size w w' := by
  obtain ⟨i0, hi0, hz0, hz1, hz2⟩ := info_parts info_place
  have h' := Lib.hid h
  clear h
  go_enter Try.func49, Try.ntmps49
  have hW : ∀ w, Calls Try.prog 68 #[.int .i64 3] w fun e w' => e = .returned (.int .i64 4) ∧ w = w' := fun w => width_any 3 (by decide) w
  go_wp2_with (first | (go_at_call 68; refine (hW _).mono ?_; rintro e w' ⟨rfl, rfl⟩) | fail)
  clear hW
  go_loopw [5, 7] (fun v i wr => ∃ k : Nat, k ≤ n / 4 ∧ i = .int .i64 ((k * 4 : Nat) : Int) ∧ wr.ownsRow w.heap.size 63 4 v k (placesCells 3 nums k) ∧ Below w.heap.size w wr) (fun _ i _ => n - (intOf i).toNat)
  case atStart => exact ⟨0, Nat.zero_le _, by simp, ⟨rfl, Or.inl ⟨rfl, rfl⟩⟩, Below.refl _ _⟩
  case round =>
    obtain ⟨k, hk, rfl, hown, hb⟩ := hrel
    by_cases hlt : k < n / 4
    · have hpl := Lib.hid (placesCells_succ 3 nums k)
      unfold placeCells at hpl
      have hp : Hid ([fl (pX 3 nums k), fl (pY 3 nums k), fl (pZ 3 nums k), fl (pM 3 nums k)] = [fl (gd nums (k * 4)), fl (gd nums (k * 4 + 1)), fl (gd nums (k * 4 + 2)), fl (gd nums (k * 4 + 3))]) := rfl
      rw [hp.out] at hpl
      clear hp
      obtain ⟨m, hm⟩ : ∃ m, k * 4 = m := ⟨_, rfl⟩
      rw [hm] at hpl ⊢
      have z0 : (m : Int) + 4 ≤ (n : Int) := by omega
      have z1 : (m : Int) < (n : Int) := by omega
      have z3 : (m : Int) ≤ 100000 := by omega
      have z4 : (0 : Int) ≤ (m : Int) := by omega
      have y1 : (m : Int) + 1 < (n : Int) := by omega
      have x1 : (0 : Int) ≤ (m : Int) + 1 := by omega
      have y2 : (m : Int) + 2 < (n : Int) := by omega
      have x2 : (0 : Int) ≤ (m : Int) + 2 := by omega
      have y3 : (m : Int) + 3 < (n : Int) := by omega
      have x3 : (0 : Int) ≤ (m : Int) + 3 := by omega
      obtain ⟨b, o, rfl, hbb, c0⟩ := row_num h'.out (i := m) (by omega)
      obtain ⟨b', o', eq, -, c1⟩ := row_num h'.out (i := m + 1) (by omega)
      injection eq with eq
      injection eq with eq1 eq2
      subst eq1 eq2
      obtain ⟨b', o', eq, -, c2⟩ := row_num h'.out (i := m + 2) (by omega)
      injection eq with eq
      injection eq with eq1 eq2
      subst eq1 eq2
      obtain ⟨b', o', eq, -, c3⟩ := row_num h'.out (i := m + 3) (by omega)
      injection eq with eq
      injection eq with eq1 eq2
      subst eq1 eq2
      rw [← hb.cell hbb] at c0 c1 c2 c3
      have hbz : b < wr.heap.size := Nat.lt_of_lt_of_le hbb hb.size
      have n0 := World.new_ne wr _ c0
      have n1 := World.new_ne wr _ c1
      have n2 := World.new_ne wr _ c2
      have n3 := World.new_ne wr _ c3
      have q1 : IntKind.i64.wrap ((m : Int) + 1) = (m : Int) + 1 := by rw [IntKind.wrap_i64]; omega
      go_wp2_with fail
      go_region_held (fun w' => w'.cell? ⟨b, o + m, none⟩ = some (fl (gd nums m)) ∧ w'.cell? ⟨b, o + (m + 1), none⟩ = some (fl (gd nums (m + 1))) ∧ w'.cell? ⟨b, o + (m + 2), none⟩ = some (fl (gd nums (m + 2))) ∧ w'.cell? ⟨b, o + (m + 3), none⟩ = some (fl (gd nums (m + 3)))) (go_keep) (fail)
      clear q1
      have hbw := hb.size
      go_wp2_with (at_builtin; go_must (refine wpList_append_newD rfl _ _ _ rfl w.heap.size i0 _ 4 32 Try.underlying54 hi0 hz0 hz1 hz2 rfl (by omega) _ k _ rfl (own_keep hown (by (repeat first | exact Below.refl _ _ | refine Below.drew ?_ | refine Below.setCell ?_ (by simp) _ | refine Below.alloc ?_ (by simp <;> omega) _))) (wr.heap.size + 1) (by simp) rfl rfl (by simp [Value.oneCell']) (by unfold maxLen; omega) (by omega) (by simp <;> omega) ?_); intro g cap w1 hown2 hb2; clear hown)
      go_roundw
      case rel =>
        refine ⟨k + 1, by omega, by rw [Nat.add_mul, hm]; go_num, ?_, ?_⟩
        · rw [hpl.out]; exact hown2
        · refine hb.trans (Below.trans ?_ hb2)
          refine Below.mono (B := wr.heap.size) ?_ hbw
          (repeat first | exact Below.refl _ _ | refine Below.drew ?_ | refine Below.setCell ?_ (by simp) _ | refine Below.alloc ?_ (by simp <;> omega) _)
      case measure => simp [intOf]; omega
    · have e1 : k = n / 4 := by omega
      have e2 : ¬ ((k * 4 : Nat) : Int) + 4 ≤ (n : Int) := by omega
      have e3 : ((k * 4 : Nat) : Int) ≤ 100000 := by omega
      generalize k * 4 = m at e2 e3
      go_wp2_with fail
      go_ret
      exact ⟨_, rfl, by rw [← e1]; exact hown, hb⟩

end Go.Proofs.Ytmdllkjlbalbpaa.Pl
