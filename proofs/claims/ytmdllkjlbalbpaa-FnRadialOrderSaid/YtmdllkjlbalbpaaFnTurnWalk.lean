/-
  The walk of 'FnTurn': for any three places with whole coordinates from -2^20 to 2^20 the orientation is the sign of their cross product.
-/
import Derived.Test.YtmdllkjlbalbpaaFormed
import Derived.Test.YtmdllkjlbalbpaaGeo
import Derived.Lib.SmallJoins
import Derived.OpenShut
namespace Go.Proofs.Ytmdllkjlbalbpaa.FnTurn
open Go.ChangeShapes Go.WideShapes Go.ChangeAt Go.RowKit Go.Sort Go.Joins
open Fl Geo Formed

abbrev pt (x y : Int) : Value := .agg #[.int .i64 x, .int .i64 y]

theorem turn_any (ax ay bx bY cx cy : Int) (h1 : bd 1048576 ax) (h2 : bd 1048576 ay) (h3 : bd 1048576 bx) (h4 : bd 1048576 bY) (h5 : bd 1048576 cx) (h6 : bd 1048576 cy) (w : World) :
    Calls Try.prog 17 #[pt ax ay, pt bx bY, pt cx cy] w fun e w' => e = .returned (.int .i64 ((bx - ax) * (cy - ay) - (bY - ay) * (cx - ax))) ∧ Below w.heap.size w w' := by
  have m1 : ((bx - ax) * (cy - ay)).natAbs ≤ 2097152 * 2097152 := mul_bd (by omega) (by omega)
  have m2 : ((bY - ay) * (cx - ax)).natAbs ≤ 2097152 * 2097152 := mul_bd (by omega) (by omega)
  have n1 : -4398046511104 ≤ (bx - ax) * (cy - ay) := by omega
  have n2 : (bx - ax) * (cy - ay) ≤ 4398046511104 := by omega
  have n3 : -4398046511104 ≤ (bY - ay) * (cx - ax) := by omega
  have n4 : (bY - ay) * (cx - ax) ≤ 4398046511104 := by omega
  obtain ⟨h1, h1'⟩ := h1
  obtain ⟨h2, h2'⟩ := h2
  obtain ⟨h3, h3'⟩ := h3
  obtain ⟨h4, h4'⟩ := h4
  obtain ⟨h5, h5'⟩ := h5
  obtain ⟨h6, h6'⟩ := h6
  clear m1 m2
  go_enter Try.func17, Try.ntmps17
  go_wp2
  go_ret
  exact ⟨rfl, (((Below.refl _ _).alloc (Nat.le_refl _) _).alloc (by simp) _).alloc (by simp <;> omega) _⟩

def sgn (n : Int) : Int := if n < 0 then -1 else if 0 < n then 1 else 0

theorem sign_any (n : Int) (w : World) : Calls Try.prog 16 #[.int .i64 n] w fun e w' => e = .returned (.int .i64 (sgn n)) ∧ Below w.heap.size w w' := by
  go_enter Try.func16, Try.ntmps16
  go_wp2
  all_goals
    go_ret
    exact ⟨ret_int (by unfold sgn; (repeat' split) <;> omega), Below.refl _ _⟩

theorem cross_eq (ax ay bx bY cx cy : Int) : crossOf ax ay bx bY cx cy = (bx - ax) * (cy - ay) - (bY - ay) * (cx - ax) := by
  unfold crossOf
  rw [show cy - bY = (cy - ay) - (bY - ay) from by omega, show cx - bx = (cx - ax) - (bx - ax) from by omega, Int.mul_sub, Int.mul_sub _ (cx - ax), Int.mul_comm (bY - ay) (bx - ax)]
  omega
theorem turn_sgn (n : Int) : turnOf n - 2 = sgn n := by unfold turnOf sgn; (repeat' split) <;> omega

theorem in3 {m px py qx qy sx sy : Int} : [(px, py), (qx, qy), (sx, sy)].all (inBd m) = true ↔ (bd m px ∧ bd m py) ∧ (bd m qx ∧ bd m qy) ∧ bd m sx ∧ bd m sy := by
  simp [inBd, bd]; omega

attribute [local irreducible] wpQuiet
set_option maxHeartbeats 2000000 in
theorem core (px py qx qy sx sy : Int) (w : World) (hwf : ∀ p ∈ [(px, py), (qx, qy), (sx, sy)], -9223372036854775808 ≤ p.1 ∧ p.1 ≤ 9223372036854775807 ∧ -9223372036854775808 ≤ p.2 ∧ p.2 ≤ 9223372036854775807) :
    Calls Try.prog 4 #[pt px py, pt qx qy, pt sx sy] w fun e w' => e = .returned (.bool true) ∧ Below w.heap.size w w' := by
  have hwf' := Lib.hid hwf
  clear hwf
  go_enter Try.func4, Try.ntmps4
  go_wp2_with fail
  refine region_stages (by kernel_rfl) ?_
  refine stage_loads (m := 3) (by kernel_rfl) ⟨by decide, by decide⟩ ?_
  simp only [List.take_succ_cons, List.take_zero, List.drop_zero]
  repeat (refine @quiet_cons _ _ _ _ _ _ _ _ rfl (fun K hK => ?_); go_simp; first | (refine hK _ ?_; clear hK K) | (apply Exists.intro; refine ⟨fun _ => ?_, hK _ ?_⟩; (fail); clear hK K))
  refine quiet_nil rfl ?_
  refine stage_steps (m := 7) (by kernel_rfl) ⟨by decide, by decide⟩ ?_
  simp only [List.take_succ_cons, List.take_zero, List.drop_zero, List.drop_succ_cons]
  go_wp2_with fail
  refine (dPlaces_any 1048576 (by omega) (by omega) (some ⟨w.heap.size + 1 + 1 + 1, 0, none⟩) 3 [(px, py), (qx, qy), (sx, sy)] (by simp) _ ?_ hwf'.out).mono ?_
  · refine Or.inr ⟨w.heap.size + 1 + 1 + 1, 0, rfl, by simp <;> omega, fun j hj => ?_⟩
    have : j = 0 ∨ j = 1 ∨ j = 2 := by simp at hj; omega
    rcases this with rfl | rfl | rfl <;> constructor <;> go_simp
  rintro e w1 ⟨rfl, hb1⟩
  obtain ⟨hc, hf⟩ := bcell hb1
  have hz : w.heap.size + 1 + 1 + 1 < w1.heap.size := by have := hb1.size; simp at this; omega
  have hbb : Below w.heap.size w w1 := ((((((Below.refl _ _).alloc (Nat.le_refl _) _).alloc (by simp) _).alloc (by simp <;> omega) _).alloc (by simp <;> omega) _).drew).trans (hb1.mono (by simp <;> omega))
  have k1 : w1.cell? ⟨w.heap.size, 0, none⟩ = some (.int .i64 px) := by rw [hc _ _ (by simp <;> omega)]; go_simp
  have k2 : w1.cell? ⟨w.heap.size, 1, none⟩ = some (.int .i64 py) := by rw [hc _ _ (by simp <;> omega)]; go_simp
  have k3 : w1.cell? ⟨w.heap.size + 1, 0, none⟩ = some (.int .i64 qx) := by rw [hc _ _ (by simp <;> omega)]; go_simp
  have k4 : w1.cell? ⟨w.heap.size + 1, 1, none⟩ = some (.int .i64 qy) := by rw [hc _ _ (by simp <;> omega)]; go_simp
  have k5 : w1.cell? ⟨w.heap.size + 1 + 1, 0, none⟩ = some (.int .i64 sx) := by rw [hc _ _ (by simp <;> omega)]; go_simp
  have k6 : w1.cell? ⟨w.heap.size + 1 + 1, 1, none⟩ = some (.int .i64 sy) := by rw [hc _ _ (by simp <;> omega)]; go_simp
  clear hc hf hb1
  by_cases hin : [(px, py), (qx, qy), (sx, sy)].all (inBd 1048576) = true
  · have hin' := in3.1 hin
    rw [hin, show decide ([(px, py), (qx, qy), (sx, sy)].length ≤ 200) = true from rfl, Bool.and_true]
    obtain ⟨⟨b1, b2⟩, ⟨b3, b4⟩, b5, b6⟩ := hin'
    have c1 := Lib.hid fun w => orient_whole _ _ _ _ _ _ px py qx qy sx sy (W.ofInt px (by omega)) (W.ofInt py (by omega)) (W.ofInt qx (by omega)) (W.ofInt qy (by omega)) (W.ofInt sx (by omega)) (W.ofInt sy (by omega)) b1 b2 b3 b4 b5 b6 w
    have c2 := Lib.hid (turn_any px py qx qy sx sy b1 b2 b3 b4 b5 b6)
    have ee := Lib.hid (show turnOf (crossOf px py qx qy sx sy) - 2 = sgn ((qx - px) * (sy - py) - (qy - py) * (sx - px)) from by rw [turn_sgn, cross_eq])
    generalize turnOf (crossOf px py qx qy sx sy) - 2 = s1 at c1 ee
    generalize (qx - px) * (sy - py) - (qy - py) * (sx - px) = cr at c2 ee
    obtain rfl : s1 = sgn cr := ee.out
    clear b1 b2 b3 b4 b5 b6 hin ee hwf'
    go_wp2_with fail
    refine stage_reads (m := 22) (fun w' => w'.cell? ⟨w.heap.size, 0, none⟩ = some (.int .i64 px) ∧ w'.cell? ⟨w.heap.size, 1, none⟩ = some (.int .i64 py) ∧
      w'.cell? ⟨w.heap.size + 1, 0, none⟩ = some (.int .i64 qx) ∧ w'.cell? ⟨w.heap.size + 1, 1, none⟩ = some (.int .i64 qy) ∧
      w'.cell? ⟨w.heap.size + 1 + 1, 0, none⟩ = some (.int .i64 sx) ∧ w'.cell? ⟨w.heap.size + 1 + 1, 1, none⟩ = some (.int .i64 sy))
      (fun d os => ⟨cell_regrown k1 d os, cell_regrown k2 d os, cell_regrown k3 d os, cell_regrown k4 d os, cell_regrown k5 d os, cell_regrown k6 d os⟩) (by kernel_rfl) ⟨by decide, by decide⟩ ?_
    clear k1 k2 k3 k4 k5 k6
    intro W1 hz1 hS
    simp only [forall_and] at hS
    obtain ⟨k1, k2, k3, k4, k5, k6⟩ := hS
    simp only [List.take_succ_cons, List.take_zero, List.drop_zero, List.drop_succ_cons]
    repeat (refine @quiet_cons _ _ _ _ _ _ _ _ rfl (fun K hK => ?_); go_simp; first | (refine hK _ ?_; clear hK K) | (apply Exists.intro; refine ⟨fun _ => ?_, hK _ ?_⟩; (first
      | with_reducible exact Calls.regrown_of (lxy_any px py _) | with_reducible exact Calls.regrown_of (lxy_any qx qy _) | with_reducible exact Calls.regrown_of (lxy_any sx sy _)
      | with_reducible exact Calls.regrown_of (c1.out _) | with_reducible exact Calls.regrown_of (c2.out _) | with_reducible exact Calls.regrown_of (sign_any _ _)); clear hK K))
    refine wpQuiet_nil ?_
    intro w2 hb2
    refine stage_done rfl ?_
    have hb3 : Below w.heap.size w w2 := hbb.trans (hb2.mono (by omega))
    clear hb2 hbb hz k1 k2 k3 k4 k5 k6
    go_wp2
    go_ret
    exact ⟨ret_bool (by simp), hb3⟩
  · rw [show [(px, py), (qx, qy), (sx, sy)].all (inBd 1048576) = false from by simpa using hin, Bool.and_false]
    clear hin hwf'
    go_wp2_with fail
    refine stage_loads (m := 22) (by kernel_rfl) ⟨by decide, by decide⟩ ?_
    simp only [List.take_succ_cons, List.take_zero, List.drop_zero, List.drop_succ_cons]
    repeat (refine @quiet_cons _ _ _ _ _ _ _ _ rfl (fun K hK => ?_); go_simp; first | (refine hK _ ?_; clear hK K) | (apply Exists.intro; refine ⟨fun _ => ?_, hK _ ?_⟩; (fail); clear hK K))
    refine quiet_nil rfl ?_
    refine stage_done rfl ?_
    go_wp2
    go_ret
    exact ⟨rfl, hbb⟩

theorem wf_bd {n : Int} (h : (Lit.int .i64 n).wf = true) : -9223372036854775808 ≤ n ∧ n ≤ 9223372036854775807 := by
  simp [Lit.wf, IntKind.min, IntKind.max, IntKind.bits, IntKind.signed] at h; omega

section
variable {H : Type} {enc : TypeId × Value → H} {W : World} {base : Nat}
set_option maxRecDepth 100000 in
theorem open_pt {v : Value} {d : DataW H} {p : List MemPlace} (hv : Value.okWide Try.prog W .any base 27 v) (h : DataW.Trod enc Try.prog W 0 (fun _ => true) true 27 v d p) :
    ∃ x y : Int, v = pt x y ∧ (-9223372036854775808 ≤ x ∧ x ≤ 9223372036854775807) ∧ -9223372036854775808 ≤ y ∧ y ≤ 9223372036854775807 := by
  obtain ⟨c0, c1, y0, y1, m, rfl, rfl, rfl, hy0, hy1⟩ := open_agg2 Try.underlying27 (by kernel_rfl) (by kernel_rfl) hv h
  obtain ⟨a, e0, rfl, wa⟩ := DataW.trod_int Try.underlying3 hy0
  obtain ⟨b, e1, rfl, wb⟩ := DataW.trod_int Try.underlying3 hy1
  simp at e0 e1
  subst e0 e1
  exact ⟨a, b, rfl, wf_bd wa, wf_bd wb⟩

set_option maxRecDepth 100000 in
theorem walk {v0 v1 v2 : Value} {d0 d1 d2 : DataW H} {p0 p1 p2 : List MemPlace}
    (o0 : Value.okWide Try.prog W .any base 27 v0) (h0 : DataW.Trod enc Try.prog W 0 (fun _ => true) true 27 v0 d0 p0)
    (o1 : Value.okWide Try.prog W .any base 27 v1) (h1 : DataW.Trod enc Try.prog W 0 (fun _ => true) true 27 v1 d1 p1)
    (o2 : Value.okWide Try.prog W .any base 27 v2) (h2 : DataW.Trod enc Try.prog W 0 (fun _ => true) true 27 v2 d2 p2) :
    Calls Try.prog 4 #[v0, v1, v2] W fun e w' => e = .returned (.bool true) ∧ Below W.heap.size W w' := by
  obtain ⟨px, py, rfl, a1, a2⟩ := open_pt o0 h0
  obtain ⟨qx, qy, rfl, a3, a4⟩ := open_pt o1 h1
  obtain ⟨sx, sy, rfl, a5, a6⟩ := open_pt o2 h2
  refine core px py qx qy sx sy W (fun p hp => ?_)
  simp only [List.mem_cons, List.not_mem_nil, or_false] at hp
  rcases hp with rfl | rfl | rfl <;> (dsimp only; omega)
end
end Go.Proofs.Ytmdllkjlbalbpaa.FnTurn
