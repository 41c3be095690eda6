/-
  'gCoords': whether coordinates are those of a place.
-/
import Derived.Test.YtmdllkjlbalbpaaSameNums
namespace Go.Proofs.Ytmdllkjlbalbpaa.Same
open Go.ChangeShapes Go.WideShapes Go.ChangeAt Go.RowKit Go.Sort
open Pl
attribute [local irreducible] wpQuiet
attribute [local go_sem ↓] Go.wp_at_zero Go.wp_at_succ

theorem row4 {w : World} {BB b : Nat} {x y z m : Nat} (hb : b < BB) (c0 : w.cell? ⟨b, 0, none⟩ = some (fl x)) (c1 : w.cell? ⟨b, 1, none⟩ = some (fl y)) (c2 : w.cell? ⟨b, 2, none⟩ = some (fl z)) (c3 : w.cell? ⟨b, 3, none⟩ = some (fl m)) :
    Row w BB (some ⟨b, 0, none⟩) ([x, y, z, m].map fl) := by
  refine Or.inr ⟨b, 0, rfl, hb, fun j hj => ?_⟩
  have : j = 0 ∨ j = 1 ∨ j = 2 ∨ j = 3 := by simp at hj; omega
  rcases this with rfl | rfl | rfl | rfl <;> simpa

set_option maxRecDepth 100000 in
set_option maxHeartbeats 8000000 in
theorem coords_any (x y z m x' y' z' m' : Nat) (cd dim : Int) (w : World) :
    Calls Try.prog 30 #[.agg #[fl x, fl y, fl z, fl m, .int .i64 cd], .agg #[fl x', fl y', fl z', fl m'], .int .i64 dim] w fun ex w' =>
      ex = .returned (.bool (decide (cd = dim) && decide ([x, y, z, m] = [x', y', z', m']))) ∧ Below w.heap.size w w' := by
  by_cases hc : cd = dim
  · have hc1 : (cd == dim) = true := by simpa using hc
    have hd : Hid (decide (cd = dim) = true) := Lib.hid (decide_eq_true hc)
    clear hc
    go_enter Try.func30, Try.ntmps30
    go_wp2_with fail
    refine (same_any _ _ 4 4 4 4 [x, y, z, m] [x', y', z', m'] rfl rfl (by omega) (by omega) _ (row4 (by simp) (by go_simp) (by go_simp) (by go_simp) (by go_simp)) (row4 (by simp) (by go_simp) (by go_simp) (by go_simp) (by go_simp))).mono ?_
    rintro ex w1 ⟨rfl, hb1⟩
    go_wp2_with fail
    go_ret
    exact ⟨ret_bool (by rw [hd.out]; simp), ((((((Below.refl _ _).alloc (Nat.le_refl _) _).alloc (by simp) _).alloc (by simp <;> omega) _).alloc (by simp <;> omega) _)).trans (hb1.mono (by simp <;> omega))⟩
  · have hc1 : (cd == dim) = false := by simpa using hc
    have hd : Hid (decide (cd = dim) = false) := Lib.hid (decide_eq_false hc)
    clear hc
    go_enter Try.func30, Try.ntmps30
    go_wp2_with fail
    go_ret
    exact ⟨ret_bool (by rw [hd.out]; rfl), (((Below.refl _ _).alloc (Nat.le_refl _) _).alloc (by simp) _)⟩
end Go.Proofs.Ytmdllkjlbalbpaa.Same
