/-
  'impl.envelope', 'impl.plainEnvelope', 'impl.EnvExpand'.
-/
import Derived.Test.YtmgomieffmbmiaaEnvNew
namespace Go.Proofs.Ytmgomieffmbmiaa.Ev
open Go.ChangeShapes Go.WideShapes Go.ChangeAt Go.RowKit Go.Sort
open Fi
attribute [local irreducible] wpQuiet
attribute [local go_sem ↓] Go.wp_at_zero Go.wp_at_succ

/-- an envelope that came in -/
def iv (f : Bool) (x : Bx) : Value := .agg #[.bool f, fl x.a, fl x.b, fl x.c, fl x.d]
def envOf (f : Bool) (x : Bx) : Option Bx := if f = true then some ⟨fmin x.a x.c, fmin x.b x.d, fmax x.a x.c, fmax x.b x.d⟩ else none

set_option maxRecDepth 100000 in
theorem env_empty (a b c d : Nat) (w : World) : Calls Try.prog 33 #[.agg #[.bool false, fl a, fl b, fl c, fl d]] w fun ex w' => ex = .returned (gv none) ∧ Below w.heap.size w w' := by
  unfold gv
  go_enter Try.func33, Try.ntmps33
  go_wp2_with fail
  refine bodyPost_ret (v := .agg #[fl 0, fl 0, fl 0, fl 0, .bool false]) (results_cell1 rfl _ rfl (by go_simp)) rfl ⟨rfl, ?_⟩
  repeat with_reducible first | exact Below.refl _ _ | refine Below.setCell ?_ (by simp <;> omega) _ | exact Below.alloc hw1 (by omega) _ | refine Below.alloc ?_ (by simp <;> omega) _

set_option maxRecDepth 100000 in
set_option maxHeartbeats 2000000 in
theorem env_full (a b c d : Nat) (w : World) : Calls Try.prog 33 #[.agg #[.bool true, fl a, fl b, fl c, fl d]] w fun ex w' => ex = .returned (gv (some ⟨fmin a c, fmin b d, fmax a c, fmax b d⟩)) ∧ Below w.heap.size w w' := by
  unfold gv
  go_enter Try.func33, Try.ntmps33
  go_wp2_with (first | (go_at_call 63; (with_reducible refine (new_any _ a b c d _ (by simp) (by go_simp) (by go_simp) (by go_simp) (by go_simp)).mono ?_); unfold gv; rintro e w1 ⟨rfl, hb1⟩; have k1 := fcell hb1; have f1 := ffroz hb1) | fail)
  refine bodyPost_ret (v := .agg #[fl (fmin a c), fl (fmin b d), fl (fmax a c), fl (fmax b d), .bool true]) (results_cell1 rfl _ rfl (by go_simp)) rfl ⟨rfl, ?_⟩
  have hw1 : Below w.heap.size w w1 := (((((Below.refl _ _).alloc (Nat.le_refl _) _).alloc (by simp) _).alloc (by simp <;> omega) _)).trans (hb1.mono (by simp <;> omega))
  repeat with_reducible first | exact hw1 | refine Below.setCell ?_ (by simp <;> omega) _

theorem al1 {B : Nat} {w1 : World} (hz : B ≤ w1.heap.size) (o : Obj) : Below B w1 (w1.alloc o) := (Below.refl _ _).alloc hz o
theorem al2 {B : Nat} {w1 : World} (hz : B ≤ w1.heap.size) (o o' : Obj) : Below B w1 ((w1.alloc o).alloc o') := (al1 hz o).alloc (by simp; omega) o'

set_option maxRecDepth 100000 in
set_option maxHeartbeats 2000000 in
theorem plain_none (w : World) : Calls Try.prog 32 #[gv none] w fun ex w' => ex = .returned (pv none) ∧ Below w.heap.size w w' := by
  have hM := Lib.hid (minmax_none)
  unfold gv at hM ⊢
  unfold pv
  go_enter Try.func32, Try.ntmps32
  go_wp2_with (first | (go_at_call 62; (with_reducible refine (hM.out _).mono ?_); rintro e w1 ⟨rfl, hb1⟩; have k1 := fcell hb1; have f1 := ffroz hb1; have hz1 : w.heap.size + 2 ≤ w1.heap.size := (by have z1 := hb1.size; simp at z1; omega); have k7 := fun o => fcell (al1 hz1 o); have f7 := fun o => ffroz (al1 hz1 o); have k8 := fun o o' => fcell (al2 hz1 o o'); have f8 := fun o o' => ffroz (al2 hz1 o o')) | fail)
  refine bodyPost_ret (v := .agg #[.bool false, fl 0, fl 0, fl 0, fl 0]) (results_cell1 rfl _ rfl (by go_simp)) rfl ⟨rfl, ?_⟩
  have hw1 : Below w.heap.size w w1 := ((((Below.refl _ _).alloc (Nat.le_refl _) _).alloc (by simp) _)).trans (hb1.mono (by simp <;> omega))
  repeat with_reducible first | exact hw1 | refine Below.setCell ?_ (by simp <;> omega) _ | exact Below.alloc hw1 (by omega) _ | refine Below.alloc ?_ (by simp <;> omega) _

set_option maxRecDepth 100000 in
set_option maxHeartbeats 2000000 in
theorem plain_some (a b c d : Nat) (w : World) : Calls Try.prog 32 #[gv (some ⟨a, b, c, d⟩)] w fun ex w' => ex = .returned (pv (some ⟨a, b, c, d⟩)) ∧ Below w.heap.size w w' := by
  have hM := Lib.hid (minmax_some a b c d)
  unfold gv at hM ⊢
  unfold pv
  go_enter Try.func32, Try.ntmps32
  go_wp2_with (first | (go_at_call 62; (with_reducible refine (hM.out _).mono ?_); rintro e w1 ⟨rfl, hb1⟩; have k1 := fcell hb1; have f1 := ffroz hb1; have hz1 : w.heap.size + 2 ≤ w1.heap.size := (by have z1 := hb1.size; simp at z1; omega); have k7 := fun o => fcell (al1 hz1 o); have f7 := fun o => ffroz (al1 hz1 o); have k8 := fun o o' => fcell (al2 hz1 o o'); have f8 := fun o o' => ffroz (al2 hz1 o o')) | fail)
  refine bodyPost_ret (v := .agg #[.bool true, fl a, fl b, fl c, fl d]) (results_cell1 rfl _ rfl (by go_simp)) rfl ⟨rfl, ?_⟩
  have hw1 : Below w.heap.size w w1 := ((((Below.refl _ _).alloc (Nat.le_refl _) _).alloc (by simp) _)).trans (hb1.mono (by simp <;> omega))
  repeat with_reducible first | exact hw1 | refine Below.setCell ?_ (by simp <;> omega) _ | exact Below.alloc hw1 (by omega) _ | refine Below.alloc ?_ (by simp <;> omega) _

theorem plain_any (x : Option Bx) (w : World) : Calls Try.prog 32 #[gv x] w fun ex w' => ex = .returned (pv x) ∧ Below w.heap.size w w' := by
  cases x with
  | none => exact plain_none w
  | some x => exact plain_some x.a x.b x.c x.d w
theorem env_any (f : Bool) (x : Bx) (w : World) : Calls Try.prog 33 #[iv f x] w fun ex w' => ex = .returned (gv (envOf f x)) ∧ Below w.heap.size w w' := by
  cases f
  · exact env_empty x.a x.b x.c x.d w
  · exact env_full x.a x.b x.c x.d w

set_option maxRecDepth 100000 in
set_option maxHeartbeats 2000000 in
theorem expand_any (f : Bool) (x : Bx) (f' : Bool) (x' : Bx) (w : World) : Calls Try.prog 10 #[iv f x, iv f' x'] w fun ex w' => ex = .returned (pv (join (envOf f x) (envOf f' x'))) ∧ Below w.heap.size w w' := by
  have hE := Lib.hid (env_any f x)
  have hE' := Lib.hid (env_any f' x')
  have hJ := Lib.hid (join_any (envOf f x) (envOf f' x'))
  have hP := Lib.hid (plain_any (join (envOf f x) (envOf f' x')))
  have hv : Hid (∃ a b c d e, pv (join (envOf f x) (envOf f' x')) = .agg #[.bool a, fl b, fl c, fl d, fl e]) := Lib.hid (by cases join (envOf f x) (envOf f' x') <;> exact ⟨_, _, _, _, _, rfl⟩)
  generalize pv (join (envOf f x) (envOf f' x')) = R at *
  generalize gv (join (envOf f x) (envOf f' x')) = J at *
  generalize gv (envOf f x) = G at *
  generalize gv (envOf f' x') = G' at *
  obtain ⟨ra, rb, rc, rd, re, rfl⟩ := hv.out
  unfold iv at hE hE' ⊢
  go_enter Try.func10, Try.ntmps10
  go_wp2_with fail
  obtain ⟨W1, hW1⟩ : ∃ W1, W1 = (((w.alloc (.cells #[.bool f, fl x.a, fl x.b, fl x.c, fl x.d] 26)).alloc (.cells #[.bool f', fl x'.a, fl x'.b, fl x'.c, fl x'.d] 26)).alloc (.cells #[.bool false, .float .f64 0, .float .f64 0, .float .f64 0, .float .f64 0] 26)) := ⟨_, rfl⟩
  rw [← hW1]
  have hz3 : w.heap.size + 3 ≤ W1.heap.size := by rw [hW1]; simp
  have hz2 : w.heap.size + 2 ≤ W1.heap.size := by omega
  have hw1 : Below w.heap.size w W1 := by rw [hW1]; exact ((((Below.refl _ _).alloc (Nat.le_refl _) _).alloc (by simp) _).alloc (by simp <;> omega) _)
  have c0 : W1.cell? ⟨w.heap.size, 0, none⟩ = some (.bool f) := by rw [hW1]; go_simp
  have c1 : W1.cell? ⟨w.heap.size, 1, none⟩ = some (fl x.a) := by rw [hW1]; go_simp
  have c2 : W1.cell? ⟨w.heap.size, 2, none⟩ = some (fl x.b) := by rw [hW1]; go_simp
  have c3 : W1.cell? ⟨w.heap.size, 3, none⟩ = some (fl x.c) := by rw [hW1]; go_simp
  have c4 : W1.cell? ⟨w.heap.size, 4, none⟩ = some (fl x.d) := by rw [hW1]; go_simp
  have d0 : W1.cell? ⟨w.heap.size + 1, 0, none⟩ = some (.bool f') := by rw [hW1]; go_simp
  have d1 : W1.cell? ⟨w.heap.size + 1, 1, none⟩ = some (fl x'.a) := by rw [hW1]; go_simp
  have d2 : W1.cell? ⟨w.heap.size + 1, 2, none⟩ = some (fl x'.b) := by rw [hW1]; go_simp
  have d3 : W1.cell? ⟨w.heap.size + 1, 3, none⟩ = some (fl x'.c) := by rw [hW1]; go_simp
  have d4 : W1.cell? ⟨w.heap.size + 1, 4, none⟩ = some (fl x'.d) := by rw [hW1]; go_simp
  have r0 : W1.cell? ⟨w.heap.size + 1 + 1, 0, none⟩ = some (.bool false) := by rw [hW1]; go_simp
  have r1 : W1.cell? ⟨w.heap.size + 1 + 1, 1, none⟩ = some (fl 0) := by rw [hW1]; go_simp
  have r2 : W1.cell? ⟨w.heap.size + 1 + 1, 2, none⟩ = some (fl 0) := by rw [hW1]; go_simp
  have r3 : W1.cell? ⟨w.heap.size + 1 + 1, 3, none⟩ = some (fl 0) := by rw [hW1]; go_simp
  have r4 : W1.cell? ⟨w.heap.size + 1 + 1, 4, none⟩ = some (fl 0) := by rw [hW1]; go_simp
  have rf : ∀ j, W1.frozen? ⟨w.heap.size + 1 + 1, j, none⟩ = false := by intro j; rw [hW1]; go_simp
  clear hW1
  have hS1 : Held (w.heap.size + 2) W1 W1 := heldOf (Below.refl _ _)
  have hR1 : Held (w.heap.size + 3) W1 W1 := heldOf (Below.refl _ _)
  have hR2 : Held (w.heap.size + 3) W1 W1.drew := heldDrew hR1
  go_region_held3 (fun w' => Below (w.heap.size + 2) W1 w' ∧ ∀ b o, b < w.heap.size + 2 → w'.cell? ⟨b, o, none⟩ = W1.cell? ⟨b, o, none⟩) (with_reducible (repeat first | assumption | refine heldDrew ?_ | refine heldSet ?_ (by simp))) (first | (go_at_call 33; (with_reducible refine (hE.out _).mono ?_); rintro e w3 ⟨rfl, hb3⟩; have hS3 := heldTrans (B := w.heap.size + 2) (by with_reducible assumption) hb3 hz2; have hR3 := heldTrans (B := w.heap.size + 3) (by with_reducible assumption) hb3 hz3; have f3 := ffroz hR3.1) | (go_at_call 33; (with_reducible refine (hE'.out _).mono ?_); rintro e w4 ⟨rfl, hb4⟩; have hS4 := heldTrans (B := w.heap.size + 2) (by with_reducible assumption) hb4 hz2; have hR4 := heldTrans (B := w.heap.size + 3) (by with_reducible assumption) hb4 hz3; have f4 := ffroz hR4.1) | (go_at_call 34; (with_reducible refine (hJ.out _).mono ?_); rintro e w5 ⟨rfl, hb5⟩; have hS5 := heldTrans (B := w.heap.size + 2) (by with_reducible assumption) hb5 hz2; have hR5 := heldTrans (B := w.heap.size + 3) (by with_reducible assumption) hb5 hz3; have f5 := ffroz hR5.1) | (go_at_call 32; (with_reducible refine (hP.out _).mono ?_); rintro e w6 ⟨rfl, hb6⟩; have hS6 := heldTrans (B := w.heap.size + 2) (by with_reducible assumption) hb6 hz2; have hR6 := heldTrans (B := w.heap.size + 3) (by with_reducible assumption) hb6 hz3; have f6 := ffroz hR6.1))
  go_wp2_with fail
  refine bodyPost_ret (v := .agg #[.bool ra, fl rb, fl rc, fl rd, fl re]) ?_ rfl ⟨rfl, hw1.trans ((heldBelow (B := w.heap.size + 2) (by with_reducible assumption)).mono (by omega))⟩
  refine results_cell1 rfl _ rfl ?_
  go_simp
end Go.Proofs.Ytmgomieffmbmiaa.Ev
