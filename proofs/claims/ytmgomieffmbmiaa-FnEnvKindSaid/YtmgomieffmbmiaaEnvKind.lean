/-
  'IsPoint', 'IsLine', 'IsRectangle', 'impl.EnvKind'.
-/
import Derived.Test.YtmgomieffmbmiaaEnvLaw
namespace Go.Proofs.Ytmgomieffmbmiaa.Ev
open Go.ChangeShapes Go.WideShapes Go.ChangeAt Go.RowKit Go.Sort
open Fi
attribute [local irreducible] wpQuiet
attribute [local go_sem ↓] Go.wp_at_zero Go.wp_at_succ

theorem eq_xy (a b c d : Nat) (w : World) : (Op.equalIn 10000 65 (.agg #[.float .f64 a, .float .f64 b]) (.agg #[.float .f64 c, .float .f64 d])).run Try.prog w = .ok (feq a c && feq b d) w := by
  have e1 := fun (a b : Nat) (w : World) => run_equalIn_float (P := Try.prog) w 9998 22 .f64 .f64 a b Try.underlying22
  rw [show (10000 : Nat) = 9999 + 1 from rfl, run_equalIn_agg w 9999 65 _ _ (by kernel_rfl) (by kernel_rfl)]
  simp only [Program.fieldsOf, Try.underlying65]
  go_simp
  unfold feq
  by_cases h1 : FloatKind.f64.format.order a c = some .eq <;> by_cases h2 : FloatKind.f64.format.order b d = some .eq <;> simp [h1, h2]
theorem run_eql_xy (a b c d : Nat) (w : World) : (binOp .eql 65 (.agg #[.float .f64 a, .float .f64 b]) (.agg #[.float .f64 c, .float .f64 d])).run Try.prog w = .ok (.bool (feq a c && feq b d)) w := by
  rw [run_eql_struct, eq_xy]; rfl
attribute [local go_sem ↓] run_eql_xy

set_option maxRecDepth 100000 in
theorem point_some (a b c d : Nat) (p q : Bool) (hp : feq a c = p) (hq : feq b d = q) (w : World) : Calls Try.prog 37 #[gv (some ⟨a, b, c, d⟩)] w fun ex w' => ex = .returned (.bool (p && q)) ∧ Below w.heap.size w w' := by
  have hE := Lib.hid (empty_any (some ⟨a, b, c, d⟩))
  have p1 : (FloatKind.f64.format.order a c == some .eq) = p := hp
  have p2 : (FloatKind.f64.format.order a c != some .eq) = !p := by rw [← p1]; rfl
  have q1 : (FloatKind.f64.format.order b d == some .eq) = q := hq
  have q2 : (FloatKind.f64.format.order b d != some .eq) = !q := by rw [← q1]; rfl
  unfold gv at hE ⊢
  cases p <;> cases q
  all_goals
    simp only [Bool.not_true, Bool.not_false] at p2 q2
    go_enter Try.func37, Try.ntmps37
    go_wp2_with (first | (go_at_call 40; (with_reducible refine (hE.out _).mono ?_); rintro e w1 ⟨rfl, hb1⟩; have k1 := fcell hb1) | fail)
    go_ret
    exact ⟨rfl, (((Below.refl _ _).alloc (Nat.le_refl _) _)).trans (hb1.mono (by simp))⟩

set_option maxRecDepth 100000 in
theorem point_none (w : World) : Calls Try.prog 37 #[gv none] w fun ex w' => ex = .returned (.bool false) ∧ Below w.heap.size w w' := by
  have hE := Lib.hid (empty_any none)
  unfold gv at hE ⊢
  go_enter Try.func37, Try.ntmps37
  go_wp2_with (first | (go_at_call 40; (with_reducible refine (hE.out _).mono ?_); rintro e w1 ⟨rfl, hb1⟩; have k1 := fcell hb1) | fail)
  go_ret
  exact ⟨rfl, (((Below.refl _ _).alloc (Nat.le_refl _) _)).trans (hb1.mono (by simp))⟩

set_option maxRecDepth 100000 in
theorem line_some (a b c d : Nat) (p q : Bool) (hp : feq a c = p) (hq : feq b d = q) (w : World) : Calls Try.prog 38 #[gv (some ⟨a, b, c, d⟩)] w fun ex w' => ex = .returned (.bool (p != q)) ∧ Below w.heap.size w w' := by
  have hE := Lib.hid (empty_any (some ⟨a, b, c, d⟩))
  have p1 : (FloatKind.f64.format.order a c == some .eq) = p := hp
  have p2 : (FloatKind.f64.format.order a c != some .eq) = !p := by rw [← p1]; rfl
  have q1 : (FloatKind.f64.format.order b d == some .eq) = q := hq
  have q2 : (FloatKind.f64.format.order b d != some .eq) = !q := by rw [← q1]; rfl
  unfold gv at hE ⊢
  cases p <;> cases q
  all_goals
    simp only [Bool.not_true, Bool.not_false] at p2 q2
    go_enter Try.func38, Try.ntmps38
    go_wp2_with (first | (go_at_call 40; (with_reducible refine (hE.out _).mono ?_); rintro e w1 ⟨rfl, hb1⟩; have k1 := fcell hb1) | fail)
    go_ret
    exact ⟨rfl, (((Below.refl _ _).alloc (Nat.le_refl _) _)).trans (hb1.mono (by simp))⟩

set_option maxRecDepth 100000 in
theorem line_none (w : World) : Calls Try.prog 38 #[gv none] w fun ex w' => ex = .returned (.bool false) ∧ Below w.heap.size w w' := by
  have hE := Lib.hid (empty_any none)
  unfold gv at hE ⊢
  go_enter Try.func38, Try.ntmps38
  go_wp2_with (first | (go_at_call 40; (with_reducible refine (hE.out _).mono ?_); rintro e w1 ⟨rfl, hb1⟩; have k1 := fcell hb1) | fail)
  go_ret
  exact ⟨rfl, (((Below.refl _ _).alloc (Nat.le_refl _) _)).trans (hb1.mono (by simp))⟩

set_option maxRecDepth 100000 in
theorem rect_some (a b c d : Nat) (p q : Bool) (hp : feq a c = p) (hq : feq b d = q) (w : World) : Calls Try.prog 39 #[gv (some ⟨a, b, c, d⟩)] w fun ex w' => ex = .returned (.bool (!p && !q)) ∧ Below w.heap.size w w' := by
  have hE := Lib.hid (empty_any (some ⟨a, b, c, d⟩))
  have p1 : (FloatKind.f64.format.order a c == some .eq) = p := hp
  have p2 : (FloatKind.f64.format.order a c != some .eq) = !p := by rw [← p1]; rfl
  have q1 : (FloatKind.f64.format.order b d == some .eq) = q := hq
  have q2 : (FloatKind.f64.format.order b d != some .eq) = !q := by rw [← q1]; rfl
  unfold gv at hE ⊢
  cases p <;> cases q
  all_goals
    simp only [Bool.not_true, Bool.not_false] at p2 q2
    go_enter Try.func39, Try.ntmps39
    go_wp2_with (first | (go_at_call 40; (with_reducible refine (hE.out _).mono ?_); rintro e w1 ⟨rfl, hb1⟩; have k1 := fcell hb1) | fail)
    go_ret
    exact ⟨rfl, (((Below.refl _ _).alloc (Nat.le_refl _) _)).trans (hb1.mono (by simp))⟩

set_option maxRecDepth 100000 in
theorem rect_none (w : World) : Calls Try.prog 39 #[gv none] w fun ex w' => ex = .returned (.bool false) ∧ Below w.heap.size w w' := by
  have hE := Lib.hid (empty_any none)
  unfold gv at hE ⊢
  go_enter Try.func39, Try.ntmps39
  go_wp2_with (first | (go_at_call 40; (with_reducible refine (hE.out _).mono ?_); rintro e w1 ⟨rfl, hb1⟩; have k1 := fcell hb1) | fail)
  go_ret
  exact ⟨rfl, (((Below.refl _ _).alloc (Nat.le_refl _) _)).trans (hb1.mono (by simp))⟩

/-- the kind of an envelope -/
def kind : Option Bx → Int
  | none => 8
  | some x => if feq x.a x.c = true then (if feq x.b x.d = true then 1 else 2) else (if feq x.b x.d = true then 2 else 4)

set_option maxRecDepth 100000 in
set_option maxHeartbeats 2000000 in
theorem kind_none (x : Bx) (w : World) : Calls Try.prog 13 #[iv false x] w fun ex w' => ex = .returned (.int .i64 8) ∧ Below w.heap.size w w' := by
  have hV := Lib.hid (env_any false x)
  have hP := Lib.hid point_none
  have hL := Lib.hid line_none
  have hR := Lib.hid rect_none
  have hE := Lib.hid (empty_any none)
  have he : Hid (envOf false x = none) := rfl
  rw [he.out] at hV
  clear he
  unfold gv at hV hP hL hR hE
  unfold iv at hV ⊢
  go_enter Try.func13, Try.ntmps13
  go_wp2_with (first | (go_at_call 33; (with_reducible refine (hV.out _).mono ?_); rintro e w1 ⟨rfl, hb1⟩; have k1 := fcell hb1; have hw1 : Below w.heap.size w w1 := (((Below.refl _ _).alloc (Nat.le_refl _) _)).trans (hb1.mono (by simp))) | (go_at_call 37; (with_reducible refine (hP.out _).mono ?_); rintro e w2 ⟨rfl, hb2⟩; have hw2 : Below w.heap.size w w2 := (hw1.alloc hw1.size _).trans (hb2.mono (by simp; exact Nat.le_succ_of_le hw1.size)); refine old_k hb2 (w1.heap.size) ?_ ?_; (focus first | omega | (simp; done)); intro _ _ _ _ _ _ _ _) | (go_at_call 38; (with_reducible refine (hL.out _).mono ?_); rintro e w3 ⟨rfl, hb3⟩; have hw3 : Below w.heap.size w w3 := hw2.trans (hb3.mono hw2.size); refine old_k hb3 (w1.heap.size) ?_ ?_; (focus first | omega | (simp; done)); intro _ _ _ _ _ _ _ _) | (go_at_call 39; (with_reducible refine (hR.out _).mono ?_); rintro e w4 ⟨rfl, hb4⟩; have hw4 : Below w.heap.size w w4 := hw3.trans (hb4.mono hw3.size); refine old_k hb4 (w1.heap.size) ?_ ?_; (focus first | omega | (simp; done)); intro _ _ _ _ _ _ _ _) | (go_at_call 40; (with_reducible refine (hE.out _).mono ?_); rintro e w5 ⟨rfl, hb5⟩; have hw5 : Below w.heap.size w w5 := hw4.trans (hb5.mono hw4.size); refine old_k hb5 (w1.heap.size) ?_ ?_; (focus first | omega | (simp; done)); intro _ _ _ _ _ _ _ _) | fail)
  go_ret
  exact ⟨rfl, hw5⟩

set_option maxRecDepth 100000 in
set_option maxHeartbeats 2000000 in
theorem kind_some (x : Bx) (w : World) : Calls Try.prog 13 #[iv true x] w fun ex w' => ex = .returned (.int .i64 (kind (envOf true x))) ∧ Below w.heap.size w w' := by
  have hV := Lib.hid (env_any true x)
  obtain ⟨y, hy⟩ : ∃ y, envOf true x = some y := ⟨_, rfl⟩
  rw [hy] at hV ⊢
  clear hy
  obtain ⟨a, b, c, d⟩ := y
  obtain ⟨p, hp⟩ : ∃ p, feq a c = p := ⟨_, rfl⟩
  obtain ⟨q, hq⟩ : ∃ q, feq b d = q := ⟨_, rfl⟩
  have hP := Lib.hid (point_some a b c d p q hp hq)
  have hL := Lib.hid (line_some a b c d p q hp hq)
  have hR := Lib.hid (rect_some a b c d p q hp hq)
  have hE := Lib.hid (empty_any (some ⟨a, b, c, d⟩))
  have hk : Hid (kind (some ⟨a, b, c, d⟩) = if p = true then (if q = true then 1 else 2) else (if q = true then 2 else 4)) := Lib.hid (by rw [← hp, ← hq]; rfl)
  rw [hk.out]
  clear hk hp hq
  unfold gv at hV hP hL hR hE
  unfold iv at hV ⊢
  cases p <;> cases q
  all_goals
    go_enter Try.func13, Try.ntmps13
    go_wp2_with (first | (go_at_call 33; (with_reducible refine (hV.out _).mono ?_); rintro e w1 ⟨rfl, hb1⟩; have k1 := fcell hb1; have hw1 : Below w.heap.size w w1 := (((Below.refl _ _).alloc (Nat.le_refl _) _)).trans (hb1.mono (by simp))) | (go_at_call 37; (with_reducible refine (hP.out _).mono ?_); rintro e w2 ⟨rfl, hb2⟩; have hw2 : Below w.heap.size w w2 := (hw1.alloc hw1.size _).trans (hb2.mono (by simp; exact Nat.le_succ_of_le hw1.size)); refine old_k hb2 (w1.heap.size) ?_ ?_; (focus first | omega | (simp; done)); intro _ _ _ _ _ _ _ _) | (go_at_call 38; (with_reducible refine (hL.out _).mono ?_); rintro e w3 ⟨rfl, hb3⟩; have hw3 : Below w.heap.size w w3 := hw2.trans (hb3.mono hw2.size); refine old_k hb3 (w1.heap.size) ?_ ?_; (focus first | omega | (simp; done)); intro _ _ _ _ _ _ _ _) | (go_at_call 39; (with_reducible refine (hR.out _).mono ?_); rintro e w4 ⟨rfl, hb4⟩; have hw4 : Below w.heap.size w w4 := hw3.trans (hb4.mono hw3.size); refine old_k hb4 (w1.heap.size) ?_ ?_; (focus first | omega | (simp; done)); intro _ _ _ _ _ _ _ _) | (go_at_call 40; (with_reducible refine (hE.out _).mono ?_); rintro e w5 ⟨rfl, hb5⟩; have hw5 : Below w.heap.size w w5 := hw4.trans (hb5.mono hw4.size); refine old_k hb5 (w1.heap.size) ?_ ?_; (focus first | omega | (simp; done)); intro _ _ _ _ _ _ _ _) | fail)
    go_ret
    exact ⟨rfl, hw5⟩
theorem kind_any (f : Bool) (x : Bx) (w : World) : Calls Try.prog 13 #[iv f x] w fun ex w' => ex = .returned (.int .i64 (kind (envOf f x))) ∧ Below w.heap.size w w' := by
  cases f
  · exact kind_none x w
  · exact kind_some x w
end Go.Proofs.Ytmgomieffmbmiaa.Ev
