/-
  'eMade', 'eEqual', 'eFinite', 'eFits'.
-/
import Derived.Test.YtmgomieffmbmiaaEnvMade
namespace Go.Proofs.Ytmgomieffmbmiaa.Ev
open Go.ChangeShapes Go.WideShapes Go.ChangeAt Go.RowKit Go.Sort
open Fi
attribute [local irreducible] wpQuiet
attribute [local go_sem ↓] Go.wp_at_zero Go.wp_at_succ

set_option maxRecDepth 100000 in
theorem made_empty (a b c d : Nat) (w : World) : Calls Try.prog 12 #[.agg #[.bool false, fl a, fl b, fl c, fl d]] w fun ex w' => ex = .returned (pv none) ∧ Below w.heap.size w w' := by
  have hC := Lib.hid (corners_empty a b c d)
  have hO := Lib.hid of_nil
  unfold pv at hO ⊢
  go_enter Try.func12, Try.ntmps12
  go_wp2_with (first | (go_at_call 36; (with_reducible refine (hC.out _).mono ?_); rintro e w1 ⟨rfl, hb1⟩; have k1 := fcell hb1; have f1 := ffroz hb1) | (go_at_call 35; (with_reducible refine (hO.out _).mono ?_); rintro e w2 ⟨rfl, hb2⟩; have k2 := fcell (hb2.mono hb1.size); have f2 := ffroz (hb2.mono hb1.size)) | fail)
  have hw1 : Below w.heap.size w w1 := ((((Below.refl _ _).alloc (Nat.le_refl _) _).alloc (by simp) _)).trans (hb1.mono (by simp <;> omega))
  have hw2 : Below w.heap.size w w2 := hw1.trans (hb2.mono hw1.size)
  refine bodyPost_ret (v := .agg #[.bool false, fl 0, fl 0, fl 0, fl 0]) (results_cell1 rfl _ rfl (by go_simp)) rfl ⟨rfl, ?_⟩
  repeat with_reducible first | exact hw2 | refine Below.setCell ?_ (by simp <;> omega) _

set_option maxRecDepth 100000 in
theorem made_full (a b c d : Nat) (w : World) : Calls Try.prog 12 #[.agg #[.bool true, fl a, fl b, fl c, fl d]] w fun ex w' => ex = .returned (pv (some (madeB ⟨a, b, c, d⟩))) ∧ Below w.heap.size w w' := by
  have hC := Lib.hid (corners_full a b c d)
  have hO := Lib.hid (fun g w => of_two g a b c d w)
  have hm : Hid (pv (some (madeB ⟨a, b, c, d⟩)) = .agg #[.bool true, fl (gmin a c), fl (gmin b d), fl (gmax a c), fl (gmax b d)]) := rfl
  rw [hm.out] at hO ⊢
  clear hm
  go_enter Try.func12, Try.ntmps12
  go_wp2_with (first | (go_at_call 36; (with_reducible refine (hC.out _).mono ?_); rintro e w1 ⟨g, rfl, hg, c0, c1, c2, c3, hb1⟩; have k1 := fcell hb1; have f1 := ffroz hb1) | (go_at_call 35; (with_reducible refine (hO.out _ _ hg c0 c1 c2 c3).mono ?_); rintro e w2 ⟨rfl, hb2⟩; have k2 := fcell (hb2.mono hb1.size); have f2 := ffroz (hb2.mono hb1.size)) | fail)
  have hw1 : Below w.heap.size w w1 := ((((Below.refl _ _).alloc (Nat.le_refl _) _).alloc (by simp) _)).trans (hb1.mono (by simp <;> omega))
  have hw2 : Below w.heap.size w w2 := hw1.trans (hb2.mono hw1.size)
  refine bodyPost_ret (v := .agg #[.bool true, fl (gmin a c), fl (gmin b d), fl (gmax a c), fl (gmax b d)]) (results_cell1 rfl _ rfl (by go_simp)) rfl ⟨rfl, ?_⟩
  repeat with_reducible first | exact hw2 | refine Below.setCell ?_ (by simp <;> omega) _

theorem made_any (f : Bool) (x : Bx) (w : World) : Calls Try.prog 12 #[iv f x] w fun ex w' => ex = .returned (pv (made f x)) ∧ Below w.heap.size w w' := by
  cases f
  · exact made_empty x.a x.b x.c x.d w
  · exact made_full x.a x.b x.c x.d w

/-! ### equality -/
def feq (a b : Nat) : Bool := (FloatKind.f64.format.order a b == some .eq)
def sameB (a b c d a' b' c' d' : Nat) : Bool := feq a a' && (feq b b' && (feq c c' && feq d d'))
theorem run_equalIn_float {P : Program} (w : World) (d : Nat) (t : TypeId) (k k' : FloatKind) (a b : Nat) (h : P.underlying t = some (.float k')) : (Op.equalIn (d + 1) t (.float k a) (.float k b)).run P w = .ok (k.format.order a b == some .eq) w := by
  simp [Op.equalIn, run_underlying h]
  rfl
theorem eq_box (a b c d a' b' c' d' : Nat) (w : World) : (Op.equalIn 10000 24 (.agg #[.float .f64 a, .float .f64 b, .float .f64 c, .float .f64 d]) (.agg #[.float .f64 a', .float .f64 b', .float .f64 c', .float .f64 d'])).run Try.prog w = .ok (sameB a b c d a' b' c' d') w := by
  have e1 := fun (a b : Nat) (w : World) => run_equalIn_float (P := Try.prog) w 9998 22 .f64 .f64 a b Try.underlying22
  rw [show (10000 : Nat) = 9999 + 1 from rfl, run_equalIn_agg w 9999 24 _ _ (by kernel_rfl) (by kernel_rfl)]
  simp only [Program.fieldsOf, Try.underlying24]
  go_simp
  unfold sameB feq
  by_cases h1 : FloatKind.f64.format.order a a' = some .eq <;> by_cases h2 : FloatKind.f64.format.order b b' = some .eq <;> by_cases h3 : FloatKind.f64.format.order c c' = some .eq <;> by_cases h4 : FloatKind.f64.format.order d d' = some .eq <;> simp [h1, h2, h3, h4]
theorem run_eql_box (a b c d a' b' c' d' : Nat) (w : World) : (binOp .eql 24 (.agg #[.float .f64 a, .float .f64 b, .float .f64 c, .float .f64 d]) (.agg #[.float .f64 a', .float .f64 b', .float .f64 c', .float .f64 d'])).run Try.prog w = .ok (.bool (sameB a b c d a' b' c' d')) w := by
  rw [run_eql_struct, eq_box]; rfl
attribute [local go_sem ↓] run_eql_box

def eqE : Option Bx → Option Bx → Bool
  | none, none => true
  | some x, some y => sameB x.a x.b x.c x.d y.a y.b y.c y.d
  | _, _ => false
set_option maxRecDepth 100000 in
theorem equal_any (x y : Option Bx) (w : World) : Calls Try.prog 11 #[pv x, pv y] w fun ex w' => ex = .returned (.bool (eqE x y)) ∧ Below w.heap.size w w' := by
  cases x <;> cases y
  all_goals
    unfold pv eqE
    go_enter Try.func11, Try.ntmps11
    go_wp2_with fail
    go_ret
    exact ⟨rfl, by (repeat first | exact Below.refl _ _ | refine Below.drew ?_ | refine Below.setCell ?_ (by simp) _ | refine Below.alloc ?_ (by simp <;> omega) _)⟩

/-! ### finite ends -/
def finB (a b c d : Nat) : Bool := fin a && (fin b && (fin c && fin d))
set_option maxRecDepth 100000 in
theorem finB_any (a b c d : Nat) (w : World) : Calls Try.prog 31 #[.agg #[fl a, fl b, fl c, fl d]] w fun ex w' => ex = .returned (.bool (finB a b c d)) ∧ Below w.heap.size w w' := by
  have ha := Lib.hid (finite_any a)
  have hb := Lib.hid (finite_any b)
  have hc := Lib.hid (finite_any c)
  have hd := Lib.hid (finite_any d)
  unfold finB
  generalize fin a = qa at *
  generalize fin b = qb at *
  generalize fin c = qc at *
  generalize fin d = qd at *
  cases qa <;> cases qb <;> cases qc <;> cases qd
  all_goals
    go_enter Try.func31, Try.ntmps31
    go_wp2_with (first | (go_at_call 25; (with_reducible refine (ha.out _).mono ?_); rintro e w1 ⟨rfl, hb1⟩; have k1 := fcell hb1; have hw1 : Below w.heap.size w w1 := (((Below.refl _ _).alloc (Nat.le_refl _) _)).trans (hb1.mono (by simp)); clear ha) | (go_at_call 25; (with_reducible refine (hb.out _).mono ?_); rintro e w2 ⟨rfl, hb2⟩; have k2 := fcell (hb2.mono hb1.size); have hw1 := hw1.trans (hb2.mono hw1.size); clear hb) | (go_at_call 25; (with_reducible refine (hc.out _).mono ?_); rintro e w3 ⟨rfl, hb3⟩; have k3 := fcell ((hb3.mono hb2.size).mono hb1.size); have hw1 := hw1.trans (hb3.mono hw1.size); clear hc) | (go_at_call 25; (with_reducible refine (hd.out _).mono ?_); rintro e w4 ⟨rfl, hb4⟩; have hw1 := hw1.trans (hb4.mono hw1.size)) | fail)
    go_ret
    exact ⟨rfl, hw1⟩
end Go.Proofs.Ytmgomieffmbmiaa.Ev
