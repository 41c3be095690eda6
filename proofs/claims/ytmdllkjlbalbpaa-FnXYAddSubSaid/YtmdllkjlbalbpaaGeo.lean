/-
  Contracts of the package's vector functions.
-/
import Derived.Test.YtmdllkjlbalbpaaRows
import Derived.Test.YtmdllkjlbalbpaaFloat
import Derived.Test.YtmdllkjlbalbpaaWalk
import Derived.Outline
namespace Go.Proofs.Ytmdllkjlbalbpaa.Geo
open Go.ChangeShapes Go.WideShapes Go.ChangeAt Go.RowKit Go.Sort
open Fl

/-- the value of a vector -/
abbrev vec (x y : Nat) : Value := .agg #[.float .f64 x, .float .f64 y]

theorem run_sub {x y r : Nat} (h : Ieee.double.sub x y = some r) (t : TypeId) (w : World) : (binOp .sub t (.float .f64 x) (.float .f64 y)).run Try.prog w = .ok (.float .f64 r) w :=
  run_float_arith w .sub t .f64 x y r h
theorem run_add {x y r : Nat} (h : Ieee.double.add x y = some r) (t : TypeId) (w : World) : (binOp .add t (.float .f64 x) (.float .f64 y)).run Try.prog w = .ok (.float .f64 r) w :=
  run_float_arith w .add t .f64 x y r h
theorem run_mul {x y r : Nat} (h : Ieee.double.mul x y = some r) (t : TypeId) (w : World) : (binOp .mul t (.float .f64 x) (.float .f64 y)).run Try.prog w = .ok (.float .f64 r) w :=
  run_float_arith w .mul t .f64 x y r h

theorem sub_any (a b c d r s : Nat) (h1 : Ieee.double.sub a c = some r) (h2 : Ieee.double.sub b d = some s) (w : World) :
    Calls Try.prog 44 #[vec a b, vec c d] w fun e w' => e = .returned (vec r s) ∧ Below w.heap.size w w' := by
  have k1 := run_sub h1
  have k2 := run_sub h2
  clear h1 h2
  go_enter Try.func44, Try.ntmps44
  go_wp2
  refine bodyPost_ret (v := vec r s) (by simp [results, Try.results44, go_sem]) rfl ⟨rfl, ?_⟩
  exact (((Below.refl _ _).alloc (Nat.le_refl _) _).alloc (by simp) _).alloc (by simp; omega) _

theorem cross_any (a b c d p q r : Nat) (h1 : Ieee.double.mul a d = some p) (h2 : Ieee.double.mul b c = some q) (h3 : Ieee.double.sub p q = some r) (w : World) :
    Calls Try.prog 76 #[vec a b, vec c d] w fun e w' => e = .returned (.float .f64 r) ∧ Below w.heap.size w w' := by
  have k1 := run_mul h1
  have k2 := run_mul h2
  have k3 := run_sub h3
  clear h1 h2 h3
  go_enter Try.func76, Try.ntmps76
  go_wp2
  go_ret
  exact ⟨rfl, ((Below.refl _ _).alloc (Nat.le_refl _) _).alloc (by simp) _⟩

theorem ret_int {k : IntKind} {a b : Int} (h : a = b) : Ending.returned (.int k a) = .returned (.int k b) := by rw [h]

/-- the sign that 'orientation' tells: 3 left, 1 right, 2 none -/
def turnOf (n : Int) : Int := if 0 < n then 3 else if n < 0 then 1 else 2

theorem orient_any (px py qx qy sx sy a b c d p q r : Nat) (h1 : Ieee.double.sub qx px = some a) (h2 : Ieee.double.sub qy py = some b) (h3 : Ieee.double.sub sx qx = some c) (h4 : Ieee.double.sub sy qy = some d)
    (h5 : Ieee.double.mul a d = some p) (h6 : Ieee.double.mul b c = some q) (h7 : Ieee.double.sub p q = some r) (n : Int) (hr : W r n) (w : World) :
    Calls Try.prog 60 #[vec px py, vec qx qy, vec sx sy] w fun e w' => e = .returned (.int .i64 (turnOf n)) ∧ Below w.heap.size w w' := by
  go_enter Try.func60, Try.ntmps60
  go_wp2_with fail
  refine region_reads (fun w' => w'.cell? ⟨w.heap.size, 0, none⟩ = some (.float .f64 px) ∧ w'.cell? ⟨w.heap.size, 1, none⟩ = some (.float .f64 py) ∧
    w'.cell? ⟨w.heap.size + 1, 0, none⟩ = some (.float .f64 qx) ∧ w'.cell? ⟨w.heap.size + 1, 1, none⟩ = some (.float .f64 qy) ∧
    w'.cell? ⟨w.heap.size + 1 + 1, 0, none⟩ = some (.float .f64 sx) ∧ w'.cell? ⟨w.heap.size + 1 + 1, 1, none⟩ = some (.float .f64 sy))
    (fun d os => ⟨cell_regrown (by go_simp) d os, cell_regrown (by go_simp) d os, cell_regrown (by go_simp) d os, cell_regrown (by go_simp) d os, cell_regrown (by go_simp) d os, cell_regrown (by go_simp) d os⟩) (by kernel_rfl) (by kernel_rfl) ?_
  intro W1 hz hS
  simp only [forall_and] at hS
  obtain ⟨k1, k2, k3, k4, k5, k6⟩ := hS
  repeat (quiet_step (first | with_reducible exact Calls.regrown_of (sub_any qx qy px py a b h1 h2 _) | with_reducible exact Calls.regrown_of (sub_any sx sy qx qy c d h3 h4 _) | with_reducible exact Calls.regrown_of (cross_any a b c d p q r h5 h6 h7 _)))
  refine wpQuiet_nil ?_
  intro w2 hb2
  have g1 := hr.gt W.zero
  have g2 := hr.lt W.zero
  clear h1 h2 h3 h4 h5 h6 h7 hr k1 k2 k3 k4 k5 k6 hz
  have hbb : Below w.heap.size w w2 := ((((Below.refl _ _).alloc (Nat.le_refl _) _).alloc (by simp) _).alloc (by simp; omega) _).trans (hb2.mono (by simp; omega))
  clear hb2
  go_wp2
  all_goals
    go_ret
    exact ⟨ret_int (by unfold turnOf; (repeat' split) <;> omega), hbb⟩

theorem door_orient (px py qx qy sx sy a b c d p q r : Nat) (h1 : Ieee.double.sub qx px = some a) (h2 : Ieee.double.sub qy py = some b) (h3 : Ieee.double.sub sx qx = some c) (h4 : Ieee.double.sub sy qy = some d)
    (h5 : Ieee.double.mul a d = some p) (h6 : Ieee.double.mul b c = some q) (h7 : Ieee.double.sub p q = some r) (n : Int) (hr : W r n) (w : World) :
    Calls Try.prog 38 #[vec px py, vec qx qy, vec sx sy] w fun e w' => e = .returned (.int .i64 (turnOf n)) ∧ Below w.heap.size w w' := by
  go_enter Try.func38, Try.ntmps38
  go_wp2_with fail
  refine (orient_any px py qx qy sx sy a b c d p q r h1 h2 h3 h4 h5 h6 h7 n hr _).mono ?_
  rintro e w1 ⟨rfl, hb⟩
  have hw : -9223372036854775808 ≤ turnOf n ∧ turnOf n ≤ 9223372036854775807 := by unfold turnOf; (repeat' split) <;> omega
  go_wp2_with fail
  go_ret
  exact ⟨rfl, ((((Below.refl _ _).alloc (Nat.le_refl _) _).alloc (by simp) _).alloc (by simp; omega) _).trans (hb.mono (by simp; omega))⟩

/-- places of the statements become places of the package -/
theorem xy_any (x y : Nat) (w : World) :
    Calls Try.prog 39 #[vec x y] w fun e w' => e = .returned (vec x y) ∧ Below w.heap.size w w' := by
  go_enter Try.func39, Try.ntmps39
  go_wp2
  refine bodyPost_ret (v := vec x y) (by simp [results, Try.results39, go_sem]) rfl ⟨rfl, ?_⟩
  exact ((Below.refl _ _).alloc (Nat.le_refl _) _).alloc (by simp) _

theorem lxy_any (x y : Int) (w : World) :
    Calls Try.prog 15 #[.agg #[.int .i64 x, .int .i64 y]] w fun e w' => e = .returned (vec (floatOfInt .f64 x) (floatOfInt .f64 y)) ∧ Below w.heap.size w w' := by
  go_enter Try.func15, Try.ntmps15
  go_wp2
  refine bodyPost_ret (v := vec (floatOfInt .f64 x) (floatOfInt .f64 y)) (by simp [results, Try.results15, go_sem]) rfl ⟨rfl, ?_⟩
  exact ((Below.refl _ _).alloc (Nat.le_refl _) _).alloc (by simp) _

/-- places within a bound -/
abbrev bd (m x : Int) : Prop := -m ≤ x ∧ x ≤ m

theorem mul_bd {a b : Int} {m n : Nat} (ha : a.natAbs ≤ m) (hb : b.natAbs ≤ n) : (a * b).natAbs ≤ m * n := by
  rw [Int.natAbs_mul]; exact Nat.mul_le_mul ha hb

/-- 'impl.Orientation' of whole places -/
def crossOf (px py qx qy sx sy : Int) : Int := (qx - px) * (sy - qy) - (qy - py) * (sx - qx)

theorem orient_whole (px py qx qy sx sy : Nat) (ipx ipy iqx iqy isx isy : Int) (wpx : W px ipx) (wpy : W py ipy) (wqx : W qx iqx) (wqy : W qy iqy) (wsx : W sx isx) (wsy : W sy isy)
    (bpx : bd 1048576 ipx) (bpy : bd 1048576 ipy) (bqx : bd 1048576 iqx) (bqy : bd 1048576 iqy) (bsx : bd 1048576 isx) (bsy : bd 1048576 isy) (w : World) :
    Calls Try.prog 14 #[vec px py, vec qx qy, vec sx sy] w fun e w' => e = .returned (.int .i64 (turnOf (crossOf ipx ipy iqx iqy isx isy) - 2)) ∧ Below w.heap.size w w' := by
  obtain ⟨a, h1, wa⟩ := wqx.sub wpx (by omega)
  obtain ⟨b, h2, wb⟩ := wqy.sub wpy (by omega)
  obtain ⟨c, h3, wc⟩ := wsx.sub wqx (by omega)
  obtain ⟨d, h4, wd⟩ := wsy.sub wqy (by omega)
  have m1 : ((iqx - ipx) * (isy - iqy)).natAbs ≤ 2097152 * 2097152 := mul_bd (by omega) (by omega)
  have m2 : ((iqy - ipy) * (isx - iqx)).natAbs ≤ 2097152 * 2097152 := mul_bd (by omega) (by omega)
  obtain ⟨p, h5, wp⟩ := wa.mul wd (by omega)
  obtain ⟨q, h6, wq⟩ := wb.mul wc (by omega)
  obtain ⟨r, h7, wr⟩ := wp.sub wq (by omega)
  have hc := fun w => door_orient px py qx qy sx sy a b c d p q r h1 h2 h3 h4 h5 h6 h7 _ wr w
  have e : crossOf ipx ipy iqx iqy isx isy = (iqx - ipx) * (isy - iqy) - (iqy - ipy) * (isx - iqx) := rfl
  rw [← e] at hc
  generalize crossOf ipx ipy iqx iqy isx isy = n at hc ⊢
  have hw : 1 ≤ turnOf n ∧ turnOf n ≤ 3 := by unfold turnOf; (repeat' split) <;> omega
  obtain ⟨hw1, hw2⟩ := hw
  have e2 : IntKind.i64.wrap (turnOf n - 2) = turnOf n - 2 := IntWalk.i64_in _ (by omega)
  clear h1 h2 h3 h4 h5 h6 h7 wa wb wc wd wp wq wr m1 m2 e wpx wpy wqx wqy wsx wsy bpx bpy bqx bqy bsx bsy
  have H := Lib.hid hc
  clear hc
  go_enter Try.func14, Try.ntmps14
  go_wp2_with fail
  refine region_reads (fun w' => w'.cell? ⟨w.heap.size, 0, none⟩ = some (.float .f64 px) ∧ w'.cell? ⟨w.heap.size, 1, none⟩ = some (.float .f64 py) ∧
    w'.cell? ⟨w.heap.size + 1, 0, none⟩ = some (.float .f64 qx) ∧ w'.cell? ⟨w.heap.size + 1, 1, none⟩ = some (.float .f64 qy) ∧
    w'.cell? ⟨w.heap.size + 1 + 1, 0, none⟩ = some (.float .f64 sx) ∧ w'.cell? ⟨w.heap.size + 1 + 1, 1, none⟩ = some (.float .f64 sy))
    (fun d os => ⟨cell_regrown (by go_simp) d os, cell_regrown (by go_simp) d os, cell_regrown (by go_simp) d os, cell_regrown (by go_simp) d os, cell_regrown (by go_simp) d os, cell_regrown (by go_simp) d os⟩) (by kernel_rfl) (by kernel_rfl) ?_
  intro W1 hz hS
  simp only [forall_and] at hS
  obtain ⟨k1, k2, k3, k4, k5, k6⟩ := hS
  repeat (quiet_step (first | with_reducible exact Calls.regrown_of (xy_any px py _) | with_reducible exact Calls.regrown_of (xy_any qx qy _) | with_reducible exact Calls.regrown_of (xy_any sx sy _) | with_reducible exact Calls.regrown_of (H.out _)))
  refine wpQuiet_nil ?_
  intro w2 hb2
  clear k1 k2 k3 k4 k5 k6 hz
  have hbb : Below w.heap.size w w2 := ((((Below.refl _ _).alloc (Nat.le_refl _) _).alloc (by simp) _).alloc (by simp; omega) _).trans (hb2.mono (by simp; omega))
  clear hb2
  go_wp2_with fail
  go_ret
  exact ⟨rfl, hbb⟩
end Go.Proofs.Ytmdllkjlbalbpaa.Geo
