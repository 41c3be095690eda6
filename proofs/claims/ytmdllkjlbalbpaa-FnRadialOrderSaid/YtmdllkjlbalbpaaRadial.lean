/-
  The package's order of directions, of whole vectors.
-/
import Derived.Test.YtmdllkjlbalbpaaFormed
import Derived.Test.YtmdllkjlbalbpaaGeo
import Derived.Test.YtmdllkjlbalbpaaRadialPlain
import Derived.Outline
namespace Go.Proofs.Ytmdllkjlbalbpaa.Radial
open Go.ChangeShapes Go.WideShapes Go.ChangeAt Go.RowKit Go.Sort
open Fl Geo Formed
attribute [local irreducible] wpQuiet

theorem dot_any (a b c d p q r : Nat) (h1 : Ieee.double.mul a c = some p) (h2 : Ieee.double.mul b d = some q) (h3 : Ieee.double.add p q = some r) (w : World) :
    Calls Try.prog 87 #[vec a b, vec c d] w fun e w' => e = .returned (.float .f64 r) ∧ Below w.heap.size w w' := by
  have k1 := run_mul h1
  have k2 := run_mul h2
  have k3 := run_add h3
  clear h1 h2 h3
  go_enter Try.func87, Try.ntmps87
  go_wp2
  go_ret
  exact ⟨rfl, (((Below.refl _ _).alloc (Nat.le_refl _) _).alloc (by simp) _)⟩

theorem lengthSq_any (a b p q r : Nat) (h1 : Ieee.double.mul a a = some p) (h2 : Ieee.double.mul b b = some q) (h3 : Ieee.double.add p q = some r) (w : World) :
    Calls Try.prog 77 #[vec a b] w fun e w' => e = .returned (.float .f64 r) ∧ Below w.heap.size w w' := by
  go_enter Try.func77, Try.ntmps77
  go_wp2_with fail
  refine (dot_any a b a b p q r h1 h2 h3 _).mono ?_
  rintro e w1 ⟨rfl, hb⟩
  go_wp2_with fail
  go_ret
  exact ⟨rfl, (((Below.refl _ _).alloc (Nat.le_refl _) _)).trans (hb.mono (by simp))⟩

set_option maxHeartbeats 2000000 in
theorem radial_any (ax ay bx bY : Nat) (iax iay ibx iby : Int) (wax : W ax iax) (way : W ay iay) (wbx : W bx ibx) (wby : W bY iby)
    (b1 : bd 1048576 iax) (b2 : bd 1048576 iay) (b3 : bd 1048576 ibx) (b4 : bd 1048576 iby) (w : World) :
    Calls Try.prog 61 #[vec ax ay, vec bx bY] w fun e w' => e = .returned (.bool (rl iax iay ibx iby)) ∧ Below w.heap.size w w' := by
  have m1 : (iax * iby).natAbs ≤ 1048576 * 1048576 := mul_bd (by omega) (by omega)
  have m2 : (iay * ibx).natAbs ≤ 1048576 * 1048576 := mul_bd (by omega) (by omega)
  have m3 : (iax * iax).natAbs ≤ 1048576 * 1048576 := mul_bd (by omega) (by omega)
  have m4 : (iay * iay).natAbs ≤ 1048576 * 1048576 := mul_bd (by omega) (by omega)
  have m5 : (ibx * ibx).natAbs ≤ 1048576 * 1048576 := mul_bd (by omega) (by omega)
  have m6 : (iby * iby).natAbs ≤ 1048576 * 1048576 := mul_bd (by omega) (by omega)
  obtain ⟨p, h1, wp⟩ := wax.mul wby (by omega)
  obtain ⟨q, h2, wq⟩ := way.mul wbx (by omega)
  obtain ⟨r, h3, wr⟩ := wp.sub wq (by omega)
  obtain ⟨p1, g1, wp1⟩ := wax.mul wax (by omega)
  obtain ⟨q1, g2, wq1⟩ := way.mul way (by omega)
  obtain ⟨r1, g3, wr1⟩ := wp1.add wq1 (by omega)
  obtain ⟨p2, g4, wp2⟩ := wbx.mul wbx (by omega)
  obtain ⟨q2, g5, wq2⟩ := wby.mul wby (by omega)
  obtain ⟨r2, g6, wr2⟩ := wp2.add wq2 (by omega)
  have hrl : rl iax iay ibx iby = if 0 ≤ iax ∧ ibx < 0 then true else if iax < 0 ∧ 0 ≤ ibx then false else
    if iax = 0 ∧ ibx = 0 then (if 0 ≤ iay ∨ 0 ≤ iby then decide (iay < iby) else decide (iby < iay)) else
    if iax * iby - iay * ibx = 0 then decide (iax * iax + iay * iay < ibx * ibx + iby * iby) else decide (0 < iax * iby - iay * ibx) := rfl
  generalize iax * iby - iay * ibx = det at wr hrl
  generalize iax * iax + iay * iay = la at wr1 hrl
  generalize ibx * ibx + iby * iby = lb at wr2 hrl
  have e1 := wax.gt W.zero
  have e2 := wbx.lt W.zero
  have e3 := wax.lt W.zero
  have e4 := wbx.gt W.zero
  have e5 := wax.eq W.zero
  have e6 := wbx.eq W.zero
  have e7 := way.gt W.zero
  have e8 := wby.gt W.zero
  have e7' := way.eq W.zero
  have e8' := wby.eq W.zero
  have e9 := way.lt wby
  have e10 := wby.lt way
  have e11 : ∃ b, (FloatKind.f64.format.order r 0 != some .eq) = b ∧ ((b = true ∧ det ≠ 0) ∨ (b = false ∧ det ≤ 0 ∧ 0 ≤ det)) := by
    rw [wr.ne W.zero]
    by_cases hd : det = 0
    · exact ⟨false, by simp [hd], Or.inr ⟨rfl, by omega, by omega⟩⟩
    · exact ⟨true, by simp [hd], Or.inl ⟨rfl, hd⟩⟩
  obtain ⟨bd0, e11, hbd⟩ := e11
  have e12 := wr.gt W.zero
  have e13 := wr1.lt wr2
  have cc := fun w => cross_any ax ay bx bY p q r h1 h2 h3 w
  have cl1 := fun w => lengthSq_any ax ay p1 q1 r1 g1 g2 g3 w
  have cl2 := fun w => lengthSq_any bx bY p2 q2 r2 g4 g5 g6 w
  clear h1 h2 h3 g1 g2 g3 g4 g5 g6 wp wq wr wp1 wq1 wr1 wp2 wq2 wr2 m1 m2 m3 m4 m5 m6 b1 b2 b3 b4 wax way wbx wby
  have H := Lib.hid hrl
  have CC := Lib.hid cc
  have CL1 := Lib.hid cl1
  have CL2 := Lib.hid cl2
  clear hrl cc cl1 cl2
  generalize rl iax iay ibx iby = res at H ⊢
  obtain ⟨rfl, hd0⟩ | ⟨rfl, hd0, hd1⟩ := hbd
  all_goals
    go_enter Try.func61, Try.ntmps61
    go_wp2_with fail
    all_goals first
      | (go_ret
         exact ⟨ret_bool (by rw [H.out]; (repeat' split) <;> first | rfl | (exfalso; omega)), (((Below.refl _ _).alloc (Nat.le_refl _) _).alloc (by simp) _)⟩)
      | (refine (CC.out _).mono ?_
         rintro e w1 ⟨rfl, hb⟩
         have hbb : Below w.heap.size w w1 := ((((Below.refl _ _).alloc (Nat.le_refl _) _).alloc (by simp) _)).trans (hb.mono (by simp <;> omega))
         have hz : w.heap.size + 1 < w1.heap.size := by have := hb.size; simp at this; omega
         have k1 : w1.cell? ⟨w.heap.size, 0, none⟩ = some (.float .f64 ax) := by rw [hb.cell (by simp <;> omega)]; go_simp
         have k2 : w1.cell? ⟨w.heap.size, 1, none⟩ = some (.float .f64 ay) := by rw [hb.cell (by simp <;> omega)]; go_simp
         have k3 : w1.cell? ⟨w.heap.size + 1, 0, none⟩ = some (.float .f64 bx) := by rw [hb.cell (by simp <;> omega)]; go_simp
         have k4 : w1.cell? ⟨w.heap.size + 1, 1, none⟩ = some (.float .f64 bY) := by rw [hb.cell (by simp <;> omega)]; go_simp
         clear hb
         go_wp2_with fail
         all_goals first
           | (go_ret
              exact ⟨ret_bool (by rw [H.out]; (repeat' split) <;> first | rfl | (exfalso; omega)), hbb⟩)
           | (refine (CL1.out _).mono ?_
              rintro e w2 ⟨rfl, hb2⟩
              have hbb2 : Below w.heap.size w w2 := hbb.trans (hb2.mono (by omega))
              have k3' : w2.cell? ⟨w.heap.size + 1, 0, none⟩ = some (.float .f64 bx) := by rw [hb2.cell hz]; exact k3
              have k4' : w2.cell? ⟨w.heap.size + 1, 1, none⟩ = some (.float .f64 bY) := by rw [hb2.cell hz]; exact k4
              have hz2 := hb2.size
              clear hb2 hbb k1 k2 k3 k4
              go_wp2_with fail
              refine (CL2.out _).mono ?_
              rintro e w3 ⟨rfl, hb3⟩
              have hbb3 : Below w.heap.size w w3 := hbb2.trans (hb3.mono (by omega))
              clear hb3 hbb2
              go_wp2_with fail
              go_ret
              exact ⟨ret_bool (by rw [H.out]; (repeat' split) <;> first | rfl | (exfalso; omega)), hbb3⟩))

theorem door_radial (ax ay bx bY : Nat) (iax iay ibx iby : Int) (wax : W ax iax) (way : W ay iay) (wbx : W bx ibx) (wby : W bY iby)
    (b1 : bd 1048576 iax) (b2 : bd 1048576 iay) (b3 : bd 1048576 ibx) (b4 : bd 1048576 iby) (w : World) :
    Calls Try.prog 40 #[vec ax ay, vec bx bY] w fun e w' => e = .returned (.bool (rl iax iay ibx iby)) ∧ Below w.heap.size w w' := by
  have c := Lib.hid fun w => radial_any ax ay bx bY iax iay ibx iby wax way wbx wby b1 b2 b3 b4 w
  clear wax way wbx wby b1 b2 b3 b4
  go_enter Try.func40, Try.ntmps40
  go_wp2_with fail
  refine (c.out _).mono ?_
  rintro e w1 ⟨rfl, hb⟩
  go_wp2_with fail
  go_ret
  exact ⟨rfl, ((((Below.refl _ _).alloc (Nat.le_refl _) _).alloc (by simp) _)).trans (hb.mono (by simp <;> omega))⟩

theorem impl_radial (ax ay bx bY : Nat) (iax iay ibx iby : Int) (wax : W ax iax) (way : W ay iay) (wbx : W bx ibx) (wby : W bY iby)
    (b1 : bd 1048576 iax) (b2 : bd 1048576 iay) (b3 : bd 1048576 ibx) (b4 : bd 1048576 iby) (w : World) :
    Calls Try.prog 18 #[vec ax ay, vec bx bY] w fun e w' => e = .returned (.bool (rl iax iay ibx iby)) ∧ Below w.heap.size w w' := by
  have c := Lib.hid fun w => door_radial ax ay bx bY iax iay ibx iby wax way wbx wby b1 b2 b3 b4 w
  clear wax way wbx wby b1 b2 b3 b4
  go_enter Try.func18, Try.ntmps18
  go_wp2_with fail
  refine region_reads (fun w' => w'.cell? ⟨w.heap.size, 0, none⟩ = some (.float .f64 ax) ∧ w'.cell? ⟨w.heap.size, 1, none⟩ = some (.float .f64 ay) ∧
    w'.cell? ⟨w.heap.size + 1, 0, none⟩ = some (.float .f64 bx) ∧ w'.cell? ⟨w.heap.size + 1, 1, none⟩ = some (.float .f64 bY))
    (fun d os => ⟨cell_regrown (by go_simp) d os, cell_regrown (by go_simp) d os, cell_regrown (by go_simp) d os, cell_regrown (by go_simp) d os⟩) (by kernel_rfl) (by kernel_rfl) ?_
  intro W1 hz hS
  simp only [forall_and] at hS
  obtain ⟨k1, k2, k3, k4⟩ := hS
  repeat (refine @quiet_cons _ _ _ _ _ _ _ _ rfl (fun K hK => ?_); go_simp; first | (refine hK _ ?_; clear hK K) | (apply Exists.intro; refine ⟨fun _ => ?_, hK _ ?_⟩; (first | with_reducible exact Calls.regrown_of (xy_any ax ay _) | with_reducible exact Calls.regrown_of (xy_any bx bY _) | with_reducible exact Calls.regrown_of (c.out _)); clear hK K))
  refine quiet_nil rfl ?_
  intro w2 hb2
  clear k1 k2 k3 k4 hz
  have hbb : Below w.heap.size w w2 := ((((Below.refl _ _).alloc (Nat.le_refl _) _).alloc (by simp) _)).trans (hb2.mono (by simp <;> omega))
  clear hb2
  go_wp2_with fail
  go_ret
  exact ⟨rfl, hbb⟩

end Go.Proofs.Ytmdllkjlbalbpaa.Radial
