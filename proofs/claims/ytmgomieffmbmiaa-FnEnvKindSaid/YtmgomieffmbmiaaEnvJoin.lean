/-
  Envelopes, word by word: 'ExpandToIncludeXY', 'ExpandToIncludeEnvelope'.
-/
import Derived.Test.YtmgomieffmbmiaaEnv
namespace Go.Proofs.Ytmgomieffmbmiaa.Ev
open Go.ChangeShapes Go.WideShapes Go.ChangeAt Go.RowKit Go.Sort
open Fi
attribute [local irreducible] wpQuiet
attribute [local go_sem ↓] Go.wp_at_zero Go.wp_at_succ

theorem heldBelow {B : Nat} {w1 w' : World} (h : Held B w1 w') : Below B w1 w' := h.1

set_option maxRecDepth 100000 in
set_option maxHeartbeats 2000000 in
theorem join_some (a b c d a' b' c' d' : Nat) (w : World) : Calls Try.prog 34 #[gv (some ⟨a, b, c, d⟩), gv (some ⟨a', b', c', d'⟩)] w fun ex w' =>
    ex = .returned (gv (some ⟨fmin a a', fmin b b', fmax c c', fmax d d'⟩)) ∧ Below w.heap.size w w' := by
  have hE := Lib.hid (empty_any (some ⟨a, b, c, d⟩))
  have hE' := Lib.hid (empty_any (some ⟨a', b', c', d'⟩))
  have hU := Lib.hid (fun w => unchecked_any (fmin a a') (fmin b b') (fmax c c') (fmax d d') w)
  unfold gv at hE hE' hU ⊢
  go_enter Try.func34, Try.ntmps34
  go_wp2_with (first | (go_at_call 40; (with_reducible refine (hE.out _).mono ?_); rintro e w1 ⟨rfl, hb1⟩; have k1 := fcell hb1; have f1 := ffroz hb1; clear hE) | (go_at_call 40; (with_reducible refine (hE'.out _).mono ?_); rintro e w2 ⟨rfl, hb2⟩; have k2 := fcell (hb2.mono hb1.size); have f2 := ffroz (hb2.mono hb1.size); clear hE') | fail)
  have c0 : w2.cell? ⟨w.heap.size, 0, none⟩ = some (fl a) := by go_simp
  have c1 : w2.cell? ⟨w.heap.size, 1, none⟩ = some (fl b) := by go_simp
  have c2 : w2.cell? ⟨w.heap.size, 2, none⟩ = some (fl c) := by go_simp
  have c3 : w2.cell? ⟨w.heap.size, 3, none⟩ = some (fl d) := by go_simp
  have d0 : w2.cell? ⟨w.heap.size + 1, 0, none⟩ = some (fl a') := by go_simp
  have d1 : w2.cell? ⟨w.heap.size + 1, 1, none⟩ = some (fl b') := by go_simp
  have d2 : w2.cell? ⟨w.heap.size + 1, 2, none⟩ = some (fl c') := by go_simp
  have d3 : w2.cell? ⟨w.heap.size + 1, 3, none⟩ = some (fl d') := by go_simp
  have r0 : w2.cell? ⟨w.heap.size + 1 + 1, 0, none⟩ = some (fl 0) := by go_simp
  have r1 : w2.cell? ⟨w.heap.size + 1 + 1, 1, none⟩ = some (fl 0) := by go_simp
  have r2 : w2.cell? ⟨w.heap.size + 1 + 1, 2, none⟩ = some (fl 0) := by go_simp
  have r3 : w2.cell? ⟨w.heap.size + 1 + 1, 3, none⟩ = some (fl 0) := by go_simp
  have r4 : w2.cell? ⟨w.heap.size + 1 + 1, 4, none⟩ = some (.bool false) := by go_simp
  have rf : ∀ j, w2.frozen? ⟨w.heap.size + 1 + 1, j, none⟩ = false := by intro j; go_simp
  have hz3 : w.heap.size + 3 ≤ w2.heap.size := by
    have z1 := hb1.size
    have z2 := hb2.size
    simp at z1
    omega
  have hw2 : Below w.heap.size w w2 := ((((((Below.refl _ _).alloc (Nat.le_refl _) _).alloc (by simp) _).alloc (by simp <;> omega) _)).trans (hb1.mono (by simp <;> omega))).trans (hb2.mono (by have z1 := hb1.size; simp at z1; omega))
  have hz2 : w.heap.size + 2 ≤ w2.heap.size := by omega
  have hS1 : Held (w.heap.size + 2) w2 w2 := heldOf (Below.refl _ _)
  have hR1 : Held (w.heap.size + 3) w2 w2 := heldOf (Below.refl _ _)
  have hR2 : Held (w.heap.size + 3) w2 w2.drew := heldDrew hR1
  clear k1 f1 hb1 k2 f2 hb2
  go_region_held3 (fun w' => Below (w.heap.size + 2) w2 w' ∧ ∀ b o, b < w.heap.size + 2 → w'.cell? ⟨b, o, none⟩ = w2.cell? ⟨b, o, none⟩) (with_reducible (repeat first | assumption | refine heldDrew ?_ | refine heldSet ?_ (by simp))) (first | (go_at_call 65; (with_reducible refine (min_any _ _ _).mono ?_); rintro e w3 ⟨rfl, hb3⟩; have hS3 := heldTrans (B := w.heap.size + 2) (by with_reducible assumption) hb3 hz2; have hR3 := heldTrans (B := w.heap.size + 3) (by with_reducible assumption) hb3 hz3; have f3 := ffroz hR3.1) | (go_at_call 66; (with_reducible refine (max_any _ _ _).mono ?_); rintro e w3 ⟨rfl, hb3⟩; have hS3 := heldTrans (B := w.heap.size + 2) (by with_reducible assumption) hb3 hz2; have hR3 := heldTrans (B := w.heap.size + 3) (by with_reducible assumption) hb3 hz3; have f3 := ffroz hR3.1) | (go_at_call 64; (with_reducible refine (hU.out _).mono ?_); rintro e w3 ⟨rfl, hb3⟩; have hS3 := heldTrans (B := w.heap.size + 2) (by with_reducible assumption) hb3 hz2; have hR3 := heldTrans (B := w.heap.size + 3) (by with_reducible assumption) hb3 hz3; have f3 := ffroz hR3.1))
  go_wp2_with fail
  refine bodyPost_ret (v := .agg #[fl (fmin a a'), fl (fmin b b'), fl (fmax c c'), fl (fmax d d'), .bool true]) ?_ rfl ⟨rfl, hw2.trans ((heldBelow (B := w.heap.size + 2) (by with_reducible assumption)).mono (by omega))⟩
  refine results_cell1 rfl _ rfl ?_
  go_simp

set_option maxRecDepth 100000 in
set_option maxHeartbeats 2000000 in
theorem expand_some (a b c d x y : Nat) (w : World) : Calls Try.prog 90 #[gv (some ⟨a, b, c, d⟩), .agg #[fl x, fl y]] w fun ex w' =>
    ex = .returned (gv (some ⟨fmin a x, fmin b y, fmax c x, fmax d y⟩)) ∧ Below w.heap.size w w' := by
  have hE := Lib.hid (empty_any (some ⟨a, b, c, d⟩))
  have hU := Lib.hid (fun w => unchecked_any (fmin a x) (fmin b y) (fmax c x) (fmax d y) w)
  unfold gv at hE  hU ⊢
  go_enter Try.func90, Try.ntmps90
  go_wp2_with (first | (go_at_call 40; (with_reducible refine (hE.out _).mono ?_); rintro e w1 ⟨rfl, hb1⟩; have k1 := fcell hb1; have f1 := ffroz hb1; clear hE) | fail)
  have c0 : w1.cell? ⟨w.heap.size, 0, none⟩ = some (fl a) := by go_simp
  have c1 : w1.cell? ⟨w.heap.size, 1, none⟩ = some (fl b) := by go_simp
  have c2 : w1.cell? ⟨w.heap.size, 2, none⟩ = some (fl c) := by go_simp
  have c3 : w1.cell? ⟨w.heap.size, 3, none⟩ = some (fl d) := by go_simp
  have d0 : w1.cell? ⟨w.heap.size + 1, 0, none⟩ = some (fl x) := by go_simp
  have d1 : w1.cell? ⟨w.heap.size + 1, 1, none⟩ = some (fl y) := by go_simp
  have r0 : w1.cell? ⟨w.heap.size + 1 + 1, 0, none⟩ = some (fl 0) := by go_simp
  have r1 : w1.cell? ⟨w.heap.size + 1 + 1, 1, none⟩ = some (fl 0) := by go_simp
  have r2 : w1.cell? ⟨w.heap.size + 1 + 1, 2, none⟩ = some (fl 0) := by go_simp
  have r3 : w1.cell? ⟨w.heap.size + 1 + 1, 3, none⟩ = some (fl 0) := by go_simp
  have r4 : w1.cell? ⟨w.heap.size + 1 + 1, 4, none⟩ = some (.bool false) := by go_simp
  have rf : ∀ j, w1.frozen? ⟨w.heap.size + 1 + 1, j, none⟩ = false := by intro j; go_simp
  have hz3 : w.heap.size + 3 ≤ w1.heap.size := by
    have z1 := hb1.size
    simp at z1
    omega
  have hw2 : Below w.heap.size w w1 := (((((Below.refl _ _).alloc (Nat.le_refl _) _).alloc (by simp) _).alloc (by simp <;> omega) _)).trans (hb1.mono (by simp <;> omega))
  have hz2 : w.heap.size + 2 ≤ w1.heap.size := by omega
  have hS1 : Held (w.heap.size + 2) w1 w1 := heldOf (Below.refl _ _)
  have hR1 : Held (w.heap.size + 3) w1 w1 := heldOf (Below.refl _ _)
  have hR2 : Held (w.heap.size + 3) w1 w1.drew := heldDrew hR1
  clear k1 f1 hb1
  go_region_held3 (fun w' => Below (w.heap.size + 2) w1 w' ∧ ∀ b o, b < w.heap.size + 2 → w'.cell? ⟨b, o, none⟩ = w1.cell? ⟨b, o, none⟩) (with_reducible (repeat first | assumption | refine heldDrew ?_ | refine heldSet ?_ (by simp))) (first | (go_at_call 65; (with_reducible refine (min_any _ _ _).mono ?_); rintro e w3 ⟨rfl, hb3⟩; have hS3 := heldTrans (B := w.heap.size + 2) (by with_reducible assumption) hb3 hz2; have hR3 := heldTrans (B := w.heap.size + 3) (by with_reducible assumption) hb3 hz3; have f3 := ffroz hR3.1) | (go_at_call 66; (with_reducible refine (max_any _ _ _).mono ?_); rintro e w3 ⟨rfl, hb3⟩; have hS3 := heldTrans (B := w.heap.size + 2) (by with_reducible assumption) hb3 hz2; have hR3 := heldTrans (B := w.heap.size + 3) (by with_reducible assumption) hb3 hz3; have f3 := ffroz hR3.1) | (go_at_call 64; (with_reducible refine (hU.out _).mono ?_); rintro e w3 ⟨rfl, hb3⟩; have hS3 := heldTrans (B := w.heap.size + 2) (by with_reducible assumption) hb3 hz2; have hR3 := heldTrans (B := w.heap.size + 3) (by with_reducible assumption) hb3 hz3; have f3 := ffroz hR3.1))
  go_wp2_with fail
  refine bodyPost_ret (v := .agg #[fl (fmin a x), fl (fmin b y), fl (fmax c x), fl (fmax d y), .bool true]) ?_ rfl ⟨rfl, hw2.trans ((heldBelow (B := w.heap.size + 2) (by with_reducible assumption)).mono (by omega))⟩
  refine results_cell1 rfl _ rfl ?_
  go_simp

set_option maxRecDepth 100000 in
theorem join_nn (w : World) : Calls Try.prog 34 #[gv none, gv none] w fun ex w' => ex = .returned (gv none) ∧ Below w.heap.size w w' := by
  have hE := Lib.hid (empty_any none)
  unfold gv at hE ⊢
  go_enter Try.func34, Try.ntmps34
  go_wp2_with (first | (go_at_call 40; (with_reducible refine (hE.out _).mono ?_); rintro e w1 ⟨rfl, hb1⟩; have k1 := fcell hb1; have f1 := ffroz hb1) | fail)
  have hw1 : Below w.heap.size w w1 := (((((Below.refl _ _).alloc (Nat.le_refl _) _).alloc (by simp) _).alloc (by simp <;> omega) _)).trans (hb1.mono (by simp <;> omega))
  refine bodyPost_ret (v := .agg #[fl 0, fl 0, fl 0, fl 0, .bool false]) (results_cell1 rfl _ rfl (by go_simp)) rfl ⟨rfl, ?_⟩
  repeat with_reducible first | exact hw1 | refine Below.setCell ?_ (by simp <;> omega) _

set_option maxRecDepth 100000 in
theorem join_ns (a b c d : Nat) (w : World) : Calls Try.prog 34 #[gv none, gv (some ⟨a, b, c, d⟩)] w fun ex w' => ex = .returned (gv (some ⟨a, b, c, d⟩)) ∧ Below w.heap.size w w' := by
  have hE := Lib.hid (empty_any none)
  unfold gv at hE ⊢
  go_enter Try.func34, Try.ntmps34
  go_wp2_with (first | (go_at_call 40; (with_reducible refine (hE.out _).mono ?_); rintro e w1 ⟨rfl, hb1⟩; have k1 := fcell hb1; have f1 := ffroz hb1) | fail)
  have hw1 : Below w.heap.size w w1 := (((((Below.refl _ _).alloc (Nat.le_refl _) _).alloc (by simp) _).alloc (by simp <;> omega) _)).trans (hb1.mono (by simp <;> omega))
  refine bodyPost_ret (v := .agg #[fl a, fl b, fl c, fl d, .bool true]) (results_cell1 rfl _ rfl (by go_simp)) rfl ⟨rfl, ?_⟩
  repeat with_reducible first | exact hw1 | refine Below.setCell ?_ (by simp <;> omega) _

set_option maxRecDepth 100000 in
theorem join_none' (a b c d : Nat) (w : World) : Calls Try.prog 34 #[gv (some ⟨a, b, c, d⟩), gv none] w fun ex w' => ex = .returned (gv (some ⟨a, b, c, d⟩)) ∧ Below w.heap.size w w' := by
  have hE := Lib.hid (empty_any (some ⟨a, b, c, d⟩))
  have hE' := Lib.hid (empty_any none)
  unfold gv at hE hE' ⊢
  go_enter Try.func34, Try.ntmps34
  go_wp2_with (first | (go_at_call 40; (with_reducible refine (hE.out _).mono ?_); rintro e w1 ⟨rfl, hb1⟩; have k1 := fcell hb1; have f1 := ffroz hb1; clear hE) | (go_at_call 40; (with_reducible refine (hE'.out _).mono ?_); rintro e w2 ⟨rfl, hb2⟩; have k2 := fcell (hb2.mono hb1.size); have f2 := ffroz (hb2.mono hb1.size); clear hE') | fail)
  have hw2 : Below w.heap.size w w2 := ((((((Below.refl _ _).alloc (Nat.le_refl _) _).alloc (by simp) _).alloc (by simp <;> omega) _)).trans (hb1.mono (by simp <;> omega))).trans (hb2.mono (by have z1 := hb1.size; simp at z1; omega))
  refine bodyPost_ret (v := .agg #[fl a, fl b, fl c, fl d, .bool true]) (results_cell1 rfl _ rfl (by go_simp)) rfl ⟨rfl, ?_⟩
  repeat with_reducible first | exact hw2 | refine Below.setCell ?_ (by simp <;> omega) _

set_option maxRecDepth 100000 in
theorem expand_none (x y : Nat) (w : World) : Calls Try.prog 90 #[gv none, .agg #[fl x, fl y]] w fun ex w' => ex = .returned (gv (some ⟨x, y, x, y⟩)) ∧ Below w.heap.size w w' := by
  have hE := Lib.hid (empty_any none)
  have hU := Lib.hid (fun w => unchecked_any x y x y w)
  unfold gv at hE hU ⊢
  go_enter Try.func90, Try.ntmps90
  go_wp2_with (first | (go_at_call 40; (with_reducible refine (hE.out _).mono ?_); rintro e w1 ⟨rfl, hb1⟩; have k1 := fcell hb1; have f1 := ffroz hb1; clear hE) | (go_at_call 64; (with_reducible refine (hU.out _).mono ?_); rintro e w2 ⟨rfl, hb2⟩; have k2 := fcell (hb2.mono hb1.size); have f2 := ffroz (hb2.mono hb1.size)) | fail)
  have hw2 : Below w.heap.size w w2 := ((((((Below.refl _ _).alloc (Nat.le_refl _) _).alloc (by simp) _).alloc (by simp <;> omega) _)).trans (hb1.mono (by simp <;> omega))).trans (hb2.mono (by have z1 := hb1.size; simp at z1; omega))
  refine bodyPost_ret (v := .agg #[fl x, fl y, fl x, fl y, .bool true]) (results_cell1 rfl _ rfl (by go_simp)) rfl ⟨rfl, ?_⟩
  repeat with_reducible first | exact hw2 | refine Below.setCell ?_ (by simp <;> omega) _

theorem join_any (x y : Option Bx) (w : World) : Calls Try.prog 34 #[gv x, gv y] w fun ex w' => ex = .returned (gv (join x y)) ∧ Below w.heap.size w w' := by
  cases x with
  | none =>
    cases y with
    | none => exact join_nn w
    | some y => exact join_ns y.a y.b y.c y.d w
  | some x =>
    cases y with
    | none => exact join_none' x.a x.b x.c x.d w
    | some y => exact join_some x.a x.b x.c x.d y.a y.b y.c y.d w
end Go.Proofs.Ytmgomieffmbmiaa.Ev
