/-
  'Sequence.Get': the numbers of a place of a sequence.
-/
import Derived.Test.YtmdllkjlbalbpaaSeq
namespace Go.Proofs.Ytmdllkjlbalbpaa.Gt
open Go.ChangeShapes Go.WideShapes Go.ChangeAt Go.RowKit Go.Sort
open Wd Pl Ln
attribute [local irreducible] wpQuiet
attribute [local go_sem ↓] Go.wp_at_zero Go.wp_at_succ

/-- a row in a block of its own -/
theorem num_at {w : World} {g : Nat} {nums : List Nat} {t : TypeId} (h : w.heap[g]? = some (.cells (nums.map fl).toArray t (0, 0))) (i : Nat) (hi : i < nums.length) : w.cell? ⟨g, i, none⟩ = some (fl (gd nums i)) := by
  simp [World.cell?, h, gd, hi]

set_option maxRecDepth 100000 in
set_option maxHeartbeats 8000000 in
theorem get_0 (g K : Nat) (nums : List Nat) (hK : nums.length = K) (hK2 : K ≤ 100000) (k : Nat) (hk : k < K / 2) (w : World) (hg : g < w.heap.size) (h : w.heap[g]? = some (.cells (nums.map fl).toArray 30 (0, 0))) :
    Calls Try.prog 53 #[.agg #[.int .u8 0, .slice (some ⟨g, 0, none⟩) K K], .int .i64 (k : Int)] w fun ex w' =>
      ex = .returned (.agg #[fl (pX 0 nums k), fl (pY 0 nums k), fl (pZ 0 nums k), fl (pM 0 nums k), .int .u8 0]) ∧ Below w.heap.size w w' := by
  obtain ⟨m, hm⟩ : ∃ m, k * 2 = m := ⟨_, rfl⟩
  have hp : Hid ([fl (pX 0 nums k), fl (pY 0 nums k), fl (pZ 0 nums k), fl (pM 0 nums k)] = [fl (gd nums m), fl (gd nums (m + 1)), fl 0, fl 0]) := by rw [← hm]; rfl
  have c0 := num_at h (m) (by omega)
  have y0 : (m : Int) < (K : Int) := by omega
  have z0 : (0 : Int) ≤ (m : Int) := by omega
  have c1 := num_at h (m + 1) (by omega)
  have y1 : (m : Int) + 1 < (K : Int) := by omega
  have z1 : (0 : Int) ≤ (m : Int) + 1 := by omega
  have q1 : IntKind.i64.wrap ((m : Int) + 1) = (m : Int) + 1 := by rw [IntKind.wrap_i64]; omega
  have q0 : IntKind.i64.wrap ((k : Int) * 2) = (m : Int) := by rw [IntKind.wrap_i64]; omega
  clear h
  have hW : ∀ w, Calls Try.prog 73 #[.int .u8 0] w fun e w' => e = .returned (.int .i64 2) ∧ w = w' := fun w => dimension_any 0 (by decide) w
  go_enter Try.func53, Try.ntmps53
  go_wp2_with (first | (go_at_call 73; refine (hW _).mono ?_; rintro e w' ⟨rfl, rfl⟩) | fail)
  obtain ⟨W1, hW1⟩ : ∃ W1, W1 = ((w.alloc (.cells #[.int .u8 0, .slice (some ⟨g, 0, none⟩) K K] 94)).alloc (.cells #[.float .f64 0, .float .f64 0, .float .f64 0, .float .f64 0, .int .u8 0] 92)) := ⟨_, rfl⟩
  rw [← hW1]
  have hs : W1.heap.size = w.heap.size + 1 + 1 := by rw [hW1]; simp
  have hb1 : Below w.heap.size w W1 := by rw [hW1]; exact (((Below.refl _ _).alloc (Nat.le_refl _) _).alloc (by simp) _)
  have c0 := kcell hb1 hg c0
  have c1 := kcell hb1 hg c1
  have d0 : W1.cell? ⟨w.heap.size, 0, none⟩ = some (.int .u8 0) := by rw [hW1]; go_simp
  have d1 : W1.cell? ⟨w.heap.size, 1, none⟩ = some (.slice (some ⟨g, 0, none⟩) K K) := by rw [hW1]; go_simp
  have e0 : W1.cell? ⟨w.heap.size + 1, 0, none⟩ = some (fl 0) := by rw [hW1]; go_simp
  have e1 : W1.cell? ⟨w.heap.size + 1, 1, none⟩ = some (fl 0) := by rw [hW1]; go_simp
  have e2 : W1.cell? ⟨w.heap.size + 1, 2, none⟩ = some (fl 0) := by rw [hW1]; go_simp
  have e3 : W1.cell? ⟨w.heap.size + 1, 3, none⟩ = some (fl 0) := by rw [hW1]; go_simp
  have e4 : W1.cell? ⟨w.heap.size + 1, 4, none⟩ = some (.int .u8 0) := by rw [hW1]; go_simp
  have ef : ∀ j, W1.frozen? ⟨w.heap.size + 1, j, none⟩ = false := by intro j; rw [hW1]; go_simp
  have n0 := World.new_ne W1 _ c0
  have n1 := World.new_ne W1 _ c1
  have nd := World.new_ne W1 _ d0
  have ne := World.new_ne W1 _ e0
  clear hW1
  go_region_held (fun w' => w'.cell? ⟨g, m, none⟩ = some (fl (gd nums (m))) ∧ w'.cell? ⟨g, m + 1, none⟩ = some (fl (gd nums (m + 1))) ∧ w'.cell? ⟨w.heap.size, 0, none⟩ = some (.int .u8 0) ∧ w'.cell? ⟨w.heap.size, 1, none⟩ = some (.slice (some ⟨g, 0, none⟩) K K)) (go_keep) (fail)
  go_wp2_with fail
  have hp2 := hp.out
  simp only [List.cons.injEq, and_true] at hp2
  obtain ⟨p0, p1, p2, p3⟩ := hp2
  refine bodyPost_ret (v := .agg #[fl (gd nums m), fl (gd nums (m + 1)), fl 0, fl 0, .int .u8 0]) ?_ rfl ⟨by rw [p0, p1, p2, p3], ?_⟩
  · refine results_cell1 rfl _ rfl ?_
    go_simp
  · refine hb1.trans ?_
    repeat with_reducible first | exact Below.refl _ _ | refine Below.drew ?_ | refine Below.setCell ?_ (by simp <;> omega) _ | refine Below.alloc ?_ (by simp <;> omega) _

set_option maxRecDepth 100000 in
set_option maxHeartbeats 8000000 in
theorem get_1 (g K : Nat) (nums : List Nat) (hK : nums.length = K) (hK2 : K ≤ 100000) (k : Nat) (hk : k < K / 3) (w : World) (hg : g < w.heap.size) (h : w.heap[g]? = some (.cells (nums.map fl).toArray 30 (0, 0))) :
    Calls Try.prog 53 #[.agg #[.int .u8 1, .slice (some ⟨g, 0, none⟩) K K], .int .i64 (k : Int)] w fun ex w' =>
      ex = .returned (.agg #[fl (pX 1 nums k), fl (pY 1 nums k), fl (pZ 1 nums k), fl (pM 1 nums k), .int .u8 1]) ∧ Below w.heap.size w w' := by
  obtain ⟨m, hm⟩ : ∃ m, k * 3 = m := ⟨_, rfl⟩
  have hp : Hid ([fl (pX 1 nums k), fl (pY 1 nums k), fl (pZ 1 nums k), fl (pM 1 nums k)] = [fl (gd nums m), fl (gd nums (m + 1)), fl (gd nums (m + 2)), fl 0]) := by rw [← hm]; rfl
  have c0 := num_at h (m) (by omega)
  have y0 : (m : Int) < (K : Int) := by omega
  have z0 : (0 : Int) ≤ (m : Int) := by omega
  have c1 := num_at h (m + 1) (by omega)
  have y1 : (m : Int) + 1 < (K : Int) := by omega
  have z1 : (0 : Int) ≤ (m : Int) + 1 := by omega
  have q1 : IntKind.i64.wrap ((m : Int) + 1) = (m : Int) + 1 := by rw [IntKind.wrap_i64]; omega
  have c2 := num_at h (m + 2) (by omega)
  have y2 : (m : Int) + 2 < (K : Int) := by omega
  have z2 : (0 : Int) ≤ (m : Int) + 2 := by omega
  have q2 : IntKind.i64.wrap ((m : Int) + 2) = (m : Int) + 2 := by rw [IntKind.wrap_i64]; omega
  have q0 : IntKind.i64.wrap ((k : Int) * 3) = (m : Int) := by rw [IntKind.wrap_i64]; omega
  clear h
  have hW : ∀ w, Calls Try.prog 73 #[.int .u8 1] w fun e w' => e = .returned (.int .i64 3) ∧ w = w' := fun w => dimension_any 1 (by decide) w
  go_enter Try.func53, Try.ntmps53
  go_wp2_with (first | (go_at_call 73; refine (hW _).mono ?_; rintro e w' ⟨rfl, rfl⟩) | fail)
  obtain ⟨W1, hW1⟩ : ∃ W1, W1 = ((w.alloc (.cells #[.int .u8 1, .slice (some ⟨g, 0, none⟩) K K] 94)).alloc (.cells #[.float .f64 0, .float .f64 0, .float .f64 0, .float .f64 0, .int .u8 0] 92)) := ⟨_, rfl⟩
  rw [← hW1]
  have hs : W1.heap.size = w.heap.size + 1 + 1 := by rw [hW1]; simp
  have hb1 : Below w.heap.size w W1 := by rw [hW1]; exact (((Below.refl _ _).alloc (Nat.le_refl _) _).alloc (by simp) _)
  have c0 := kcell hb1 hg c0
  have c1 := kcell hb1 hg c1
  have c2 := kcell hb1 hg c2
  have d0 : W1.cell? ⟨w.heap.size, 0, none⟩ = some (.int .u8 1) := by rw [hW1]; go_simp
  have d1 : W1.cell? ⟨w.heap.size, 1, none⟩ = some (.slice (some ⟨g, 0, none⟩) K K) := by rw [hW1]; go_simp
  have e0 : W1.cell? ⟨w.heap.size + 1, 0, none⟩ = some (fl 0) := by rw [hW1]; go_simp
  have e1 : W1.cell? ⟨w.heap.size + 1, 1, none⟩ = some (fl 0) := by rw [hW1]; go_simp
  have e2 : W1.cell? ⟨w.heap.size + 1, 2, none⟩ = some (fl 0) := by rw [hW1]; go_simp
  have e3 : W1.cell? ⟨w.heap.size + 1, 3, none⟩ = some (fl 0) := by rw [hW1]; go_simp
  have e4 : W1.cell? ⟨w.heap.size + 1, 4, none⟩ = some (.int .u8 0) := by rw [hW1]; go_simp
  have ef : ∀ j, W1.frozen? ⟨w.heap.size + 1, j, none⟩ = false := by intro j; rw [hW1]; go_simp
  have n0 := World.new_ne W1 _ c0
  have n1 := World.new_ne W1 _ c1
  have n2 := World.new_ne W1 _ c2
  have nd := World.new_ne W1 _ d0
  have ne := World.new_ne W1 _ e0
  clear hW1
  go_region_held (fun w' => w'.cell? ⟨g, m, none⟩ = some (fl (gd nums (m))) ∧ w'.cell? ⟨g, m + 1, none⟩ = some (fl (gd nums (m + 1))) ∧ w'.cell? ⟨w.heap.size, 0, none⟩ = some (.int .u8 1) ∧ w'.cell? ⟨w.heap.size, 1, none⟩ = some (.slice (some ⟨g, 0, none⟩) K K)) (go_keep) (fail)
  have k2 : ∀ o, (W1.alloc o).cell? ⟨g, m + 2, none⟩ = some (fl (gd nums (m + 2))) := fun o => (World.cell?_alloc_lt _ _ ⟨g, m + 2, none⟩ (by show g < _; omega)).trans c2
  go_wp2_with fail
  have hp2 := hp.out
  simp only [List.cons.injEq, and_true] at hp2
  obtain ⟨p0, p1, p2, p3⟩ := hp2
  refine bodyPost_ret (v := .agg #[fl (gd nums m), fl (gd nums (m + 1)), fl (gd nums (m + 2)), fl 0, .int .u8 1]) ?_ rfl ⟨by rw [p0, p1, p2, p3], ?_⟩
  · refine results_cell1 rfl _ rfl ?_
    go_simp
  · refine hb1.trans ?_
    repeat with_reducible first | exact Below.refl _ _ | refine Below.drew ?_ | refine Below.setCell ?_ (by simp <;> omega) _ | refine Below.alloc ?_ (by simp <;> omega) _

set_option maxRecDepth 100000 in
set_option maxHeartbeats 8000000 in
theorem get_2 (g K : Nat) (nums : List Nat) (hK : nums.length = K) (hK2 : K ≤ 100000) (k : Nat) (hk : k < K / 3) (w : World) (hg : g < w.heap.size) (h : w.heap[g]? = some (.cells (nums.map fl).toArray 30 (0, 0))) :
    Calls Try.prog 53 #[.agg #[.int .u8 2, .slice (some ⟨g, 0, none⟩) K K], .int .i64 (k : Int)] w fun ex w' =>
      ex = .returned (.agg #[fl (pX 2 nums k), fl (pY 2 nums k), fl (pZ 2 nums k), fl (pM 2 nums k), .int .u8 2]) ∧ Below w.heap.size w w' := by
  obtain ⟨m, hm⟩ : ∃ m, k * 3 = m := ⟨_, rfl⟩
  have hp : Hid ([fl (pX 2 nums k), fl (pY 2 nums k), fl (pZ 2 nums k), fl (pM 2 nums k)] = [fl (gd nums m), fl (gd nums (m + 1)), fl 0, fl (gd nums (m + 2))]) := by rw [← hm]; rfl
  have c0 := num_at h (m) (by omega)
  have y0 : (m : Int) < (K : Int) := by omega
  have z0 : (0 : Int) ≤ (m : Int) := by omega
  have c1 := num_at h (m + 1) (by omega)
  have y1 : (m : Int) + 1 < (K : Int) := by omega
  have z1 : (0 : Int) ≤ (m : Int) + 1 := by omega
  have q1 : IntKind.i64.wrap ((m : Int) + 1) = (m : Int) + 1 := by rw [IntKind.wrap_i64]; omega
  have c2 := num_at h (m + 2) (by omega)
  have y2 : (m : Int) + 2 < (K : Int) := by omega
  have z2 : (0 : Int) ≤ (m : Int) + 2 := by omega
  have q2 : IntKind.i64.wrap ((m : Int) + 2) = (m : Int) + 2 := by rw [IntKind.wrap_i64]; omega
  have q0 : IntKind.i64.wrap ((k : Int) * 3) = (m : Int) := by rw [IntKind.wrap_i64]; omega
  clear h
  have hW : ∀ w, Calls Try.prog 73 #[.int .u8 2] w fun e w' => e = .returned (.int .i64 3) ∧ w = w' := fun w => dimension_any 2 (by decide) w
  go_enter Try.func53, Try.ntmps53
  go_wp2_with (first | (go_at_call 73; refine (hW _).mono ?_; rintro e w' ⟨rfl, rfl⟩) | fail)
  obtain ⟨W1, hW1⟩ : ∃ W1, W1 = ((w.alloc (.cells #[.int .u8 2, .slice (some ⟨g, 0, none⟩) K K] 94)).alloc (.cells #[.float .f64 0, .float .f64 0, .float .f64 0, .float .f64 0, .int .u8 0] 92)) := ⟨_, rfl⟩
  rw [← hW1]
  have hs : W1.heap.size = w.heap.size + 1 + 1 := by rw [hW1]; simp
  have hb1 : Below w.heap.size w W1 := by rw [hW1]; exact (((Below.refl _ _).alloc (Nat.le_refl _) _).alloc (by simp) _)
  have c0 := kcell hb1 hg c0
  have c1 := kcell hb1 hg c1
  have c2 := kcell hb1 hg c2
  have d0 : W1.cell? ⟨w.heap.size, 0, none⟩ = some (.int .u8 2) := by rw [hW1]; go_simp
  have d1 : W1.cell? ⟨w.heap.size, 1, none⟩ = some (.slice (some ⟨g, 0, none⟩) K K) := by rw [hW1]; go_simp
  have e0 : W1.cell? ⟨w.heap.size + 1, 0, none⟩ = some (fl 0) := by rw [hW1]; go_simp
  have e1 : W1.cell? ⟨w.heap.size + 1, 1, none⟩ = some (fl 0) := by rw [hW1]; go_simp
  have e2 : W1.cell? ⟨w.heap.size + 1, 2, none⟩ = some (fl 0) := by rw [hW1]; go_simp
  have e3 : W1.cell? ⟨w.heap.size + 1, 3, none⟩ = some (fl 0) := by rw [hW1]; go_simp
  have e4 : W1.cell? ⟨w.heap.size + 1, 4, none⟩ = some (.int .u8 0) := by rw [hW1]; go_simp
  have ef : ∀ j, W1.frozen? ⟨w.heap.size + 1, j, none⟩ = false := by intro j; rw [hW1]; go_simp
  have n0 := World.new_ne W1 _ c0
  have n1 := World.new_ne W1 _ c1
  have n2 := World.new_ne W1 _ c2
  have nd := World.new_ne W1 _ d0
  have ne := World.new_ne W1 _ e0
  clear hW1
  go_region_held (fun w' => w'.cell? ⟨g, m, none⟩ = some (fl (gd nums (m))) ∧ w'.cell? ⟨g, m + 1, none⟩ = some (fl (gd nums (m + 1))) ∧ w'.cell? ⟨w.heap.size, 0, none⟩ = some (.int .u8 2) ∧ w'.cell? ⟨w.heap.size, 1, none⟩ = some (.slice (some ⟨g, 0, none⟩) K K)) (go_keep) (fail)
  have k2 : ∀ o, (W1.alloc o).cell? ⟨g, m + 2, none⟩ = some (fl (gd nums (m + 2))) := fun o => (World.cell?_alloc_lt _ _ ⟨g, m + 2, none⟩ (by show g < _; omega)).trans c2
  go_wp2_with fail
  have hp2 := hp.out
  simp only [List.cons.injEq, and_true] at hp2
  obtain ⟨p0, p1, p2, p3⟩ := hp2
  refine bodyPost_ret (v := .agg #[fl (gd nums m), fl (gd nums (m + 1)), fl 0, fl (gd nums (m + 2)), .int .u8 2]) ?_ rfl ⟨by rw [p0, p1, p2, p3], ?_⟩
  · refine results_cell1 rfl _ rfl ?_
    go_simp
  · refine hb1.trans ?_
    repeat with_reducible first | exact Below.refl _ _ | refine Below.drew ?_ | refine Below.setCell ?_ (by simp <;> omega) _ | refine Below.alloc ?_ (by simp <;> omega) _

set_option maxRecDepth 100000 in
set_option maxHeartbeats 8000000 in
theorem get_3 (g K : Nat) (nums : List Nat) (hK : nums.length = K) (hK2 : K ≤ 100000) (k : Nat) (hk : k < K / 4) (w : World) (hg : g < w.heap.size) (h : w.heap[g]? = some (.cells (nums.map fl).toArray 30 (0, 0))) :
    Calls Try.prog 53 #[.agg #[.int .u8 3, .slice (some ⟨g, 0, none⟩) K K], .int .i64 (k : Int)] w fun ex w' =>
      ex = .returned (.agg #[fl (pX 3 nums k), fl (pY 3 nums k), fl (pZ 3 nums k), fl (pM 3 nums k), .int .u8 3]) ∧ Below w.heap.size w w' := by
  obtain ⟨m, hm⟩ : ∃ m, k * 4 = m := ⟨_, rfl⟩
  have hp : Hid ([fl (pX 3 nums k), fl (pY 3 nums k), fl (pZ 3 nums k), fl (pM 3 nums k)] = [fl (gd nums m), fl (gd nums (m + 1)), fl (gd nums (m + 2)), fl (gd nums (m + 3))]) := by rw [← hm]; rfl
  have c0 := num_at h (m) (by omega)
  have y0 : (m : Int) < (K : Int) := by omega
  have z0 : (0 : Int) ≤ (m : Int) := by omega
  have c1 := num_at h (m + 1) (by omega)
  have y1 : (m : Int) + 1 < (K : Int) := by omega
  have z1 : (0 : Int) ≤ (m : Int) + 1 := by omega
  have q1 : IntKind.i64.wrap ((m : Int) + 1) = (m : Int) + 1 := by rw [IntKind.wrap_i64]; omega
  have c2 := num_at h (m + 2) (by omega)
  have y2 : (m : Int) + 2 < (K : Int) := by omega
  have z2 : (0 : Int) ≤ (m : Int) + 2 := by omega
  have q2 : IntKind.i64.wrap ((m : Int) + 2) = (m : Int) + 2 := by rw [IntKind.wrap_i64]; omega
  have c3 := num_at h (m + 3) (by omega)
  have y3 : (m : Int) + 3 < (K : Int) := by omega
  have z3 : (0 : Int) ≤ (m : Int) + 3 := by omega
  have q3 : IntKind.i64.wrap ((m : Int) + 3) = (m : Int) + 3 := by rw [IntKind.wrap_i64]; omega
  have q0 : IntKind.i64.wrap ((k : Int) * 4) = (m : Int) := by rw [IntKind.wrap_i64]; omega
  clear h
  have hW : ∀ w, Calls Try.prog 73 #[.int .u8 3] w fun e w' => e = .returned (.int .i64 4) ∧ w = w' := fun w => dimension_any 3 (by decide) w
  go_enter Try.func53, Try.ntmps53
  go_wp2_with (first | (go_at_call 73; refine (hW _).mono ?_; rintro e w' ⟨rfl, rfl⟩) | fail)
  obtain ⟨W1, hW1⟩ : ∃ W1, W1 = ((w.alloc (.cells #[.int .u8 3, .slice (some ⟨g, 0, none⟩) K K] 94)).alloc (.cells #[.float .f64 0, .float .f64 0, .float .f64 0, .float .f64 0, .int .u8 0] 92)) := ⟨_, rfl⟩
  rw [← hW1]
  have hs : W1.heap.size = w.heap.size + 1 + 1 := by rw [hW1]; simp
  have hb1 : Below w.heap.size w W1 := by rw [hW1]; exact (((Below.refl _ _).alloc (Nat.le_refl _) _).alloc (by simp) _)
  have c0 := kcell hb1 hg c0
  have c1 := kcell hb1 hg c1
  have c2 := kcell hb1 hg c2
  have c3 := kcell hb1 hg c3
  have d0 : W1.cell? ⟨w.heap.size, 0, none⟩ = some (.int .u8 3) := by rw [hW1]; go_simp
  have d1 : W1.cell? ⟨w.heap.size, 1, none⟩ = some (.slice (some ⟨g, 0, none⟩) K K) := by rw [hW1]; go_simp
  have e0 : W1.cell? ⟨w.heap.size + 1, 0, none⟩ = some (fl 0) := by rw [hW1]; go_simp
  have e1 : W1.cell? ⟨w.heap.size + 1, 1, none⟩ = some (fl 0) := by rw [hW1]; go_simp
  have e2 : W1.cell? ⟨w.heap.size + 1, 2, none⟩ = some (fl 0) := by rw [hW1]; go_simp
  have e3 : W1.cell? ⟨w.heap.size + 1, 3, none⟩ = some (fl 0) := by rw [hW1]; go_simp
  have e4 : W1.cell? ⟨w.heap.size + 1, 4, none⟩ = some (.int .u8 0) := by rw [hW1]; go_simp
  have ef : ∀ j, W1.frozen? ⟨w.heap.size + 1, j, none⟩ = false := by intro j; rw [hW1]; go_simp
  have n0 := World.new_ne W1 _ c0
  have n1 := World.new_ne W1 _ c1
  have n2 := World.new_ne W1 _ c2
  have n3 := World.new_ne W1 _ c3
  have nd := World.new_ne W1 _ d0
  have ne := World.new_ne W1 _ e0
  clear hW1
  go_region_held (fun w' => w'.cell? ⟨g, m, none⟩ = some (fl (gd nums (m))) ∧ w'.cell? ⟨g, m + 1, none⟩ = some (fl (gd nums (m + 1))) ∧ w'.cell? ⟨w.heap.size, 0, none⟩ = some (.int .u8 3) ∧ w'.cell? ⟨w.heap.size, 1, none⟩ = some (.slice (some ⟨g, 0, none⟩) K K)) (go_keep) (fail)
  have k2 : ∀ o, (W1.alloc o).cell? ⟨g, m + 2, none⟩ = some (fl (gd nums (m + 2))) := fun o => (World.cell?_alloc_lt _ _ ⟨g, m + 2, none⟩ (by show g < _; omega)).trans c2
  have k3 : ∀ o, (W1.alloc o).cell? ⟨g, m + 3, none⟩ = some (fl (gd nums (m + 3))) := fun o => (World.cell?_alloc_lt _ _ ⟨g, m + 3, none⟩ (by show g < _; omega)).trans c3
  go_wp2_with fail
  have hp2 := hp.out
  simp only [List.cons.injEq, and_true] at hp2
  obtain ⟨p0, p1, p2, p3⟩ := hp2
  refine bodyPost_ret (v := .agg #[fl (gd nums m), fl (gd nums (m + 1)), fl (gd nums (m + 2)), fl (gd nums (m + 3)), .int .u8 3]) ?_ rfl ⟨by rw [p0, p1, p2, p3], ?_⟩
  · refine results_cell1 rfl _ rfl ?_
    go_simp
  · refine hb1.trans ?_
    repeat with_reducible first | exact Below.refl _ _ | refine Below.drew ?_ | refine Below.setCell ?_ (by simp <;> omega) _ | refine Below.alloc ?_ (by simp <;> omega) _
end Go.Proofs.Ytmdllkjlbalbpaa.Gt
