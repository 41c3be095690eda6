/-
  Envelopes, word by word: 'fastMin', 'fastMax', 'newUncheckedEnvelope', 'IsEmpty', 'MinMaxXYs', 'ExpandToIncludeXY', 'ExpandToIncludeEnvelope', 'plainEnvelope'.
-/
import Derived.Test.YtmgomieffmbmiaaFin
import Derived.Test.YtmgomieffmbmiaaFacts
import Derived.Deep.RegionHeld3
import Derived.Deep.DrawnRows
import Derived.Deep.DeepMust
namespace Go.Proofs.Ytmgomieffmbmiaa.Ev
open Go.ChangeShapes Go.WideShapes Go.ChangeAt Go.RowKit Go.Sort
open Fi
attribute [local irreducible] wpQuiet
attribute [local go_sem ↓] Go.wp_at_zero Go.wp_at_succ

abbrev fl (x : Nat) : Value := .float .f64 x
def nan (a : Nat) : Bool := (FloatKind.f64.format.order a a != some .eq)
def lt (a b : Nat) : Bool := (FloatKind.f64.format.order a b == some .lt)
def gt (a b : Nat) : Bool := (FloatKind.f64.format.order a b == some .gt)
def fmin (a b : Nat) : Nat := if (nan a || lt a b) = true then a else b
def fmax (a b : Nat) : Nat := if (nan a || gt a b) = true then a else b

/-- a box: the least X and Y, the greatest X and Y -/
structure Bx where
  a : Nat
  b : Nat
  c : Nat
  d : Nat
/-- an envelope of the package -/
def gv : Option Bx → Value
  | none => .agg #[fl 0, fl 0, fl 0, fl 0, .bool false]
  | some x => .agg #[fl x.a, fl x.b, fl x.c, fl x.d, .bool true]
/-- a plain envelope -/
def pv : Option Bx → Value
  | none => .agg #[.bool false, fl 0, fl 0, fl 0, fl 0]
  | some x => .agg #[.bool true, fl x.a, fl x.b, fl x.c, fl x.d]
def joinB (x y : Bx) : Bx := ⟨fmin x.a y.a, fmin x.b y.b, fmax x.c y.c, fmax x.d y.d⟩
def join : Option Bx → Option Bx → Option Bx
  | none, y => y
  | some x, none => some x
  | some x, some y => some (joinB x y)

theorem nan_any (x : Nat) (w : World) : Calls Try.prog 52 #[fl x] w fun ex w' => ex = .returned (.bool (nan x)) ∧ Below w.heap.size w w' := isnan_any x w

theorem min_any (a b : Nat) (w : World) : Calls Try.prog 65 #[fl a, fl b] w fun ex w' => ex = .returned (fl (fmin a b)) ∧ Below w.heap.size w w' := by
  have hN := Lib.hid (nan_any a)
  by_cases h : nan a = true
  · rw [h] at hN
    have hf : Hid (fmin a b = a) := Lib.hid (by unfold fmin; rw [h]; rfl)
    clear h
    go_enter Try.func65, Try.ntmps65
    go_wp2_with (first | (go_at_call 52; refine (hN.out _).mono ?_; rintro e w1 ⟨rfl, hb1⟩) | fail)
    go_ret
    exact ⟨ret_fl hf.out.symm, hb1⟩
  · have h' : nan a = false := by simpa using h
    rw [h'] at hN
    by_cases h2 : lt a b = true
    · have hf : Hid (fmin a b = a) := Lib.hid (by unfold fmin; rw [h2, h']; rfl)
      have h3 : (FloatKind.f64.format.order a b == some .lt) = true := h2
      clear h h2 h'
      go_enter Try.func65, Try.ntmps65
      go_wp2_with (first | (go_at_call 52; refine (hN.out _).mono ?_; rintro e w1 ⟨rfl, hb1⟩) | fail)
      go_ret
      exact ⟨ret_fl hf.out.symm, hb1⟩
    · have h2' : lt a b = false := by simpa using h2
      have hf : Hid (fmin a b = b) := Lib.hid (by unfold fmin; rw [h2', h']; rfl)
      have h3 : (FloatKind.f64.format.order a b == some .lt) = false := h2'
      clear h h2 h' h2'
      go_enter Try.func65, Try.ntmps65
      go_wp2_with (first | (go_at_call 52; refine (hN.out _).mono ?_; rintro e w1 ⟨rfl, hb1⟩) | fail)
      go_ret
      exact ⟨ret_fl hf.out.symm, hb1⟩

theorem max_any (a b : Nat) (w : World) : Calls Try.prog 66 #[fl a, fl b] w fun ex w' => ex = .returned (fl (fmax a b)) ∧ Below w.heap.size w w' := by
  have hN := Lib.hid (nan_any a)
  by_cases h : nan a = true
  · rw [h] at hN
    have hf : Hid (fmax a b = a) := Lib.hid (by unfold fmax; rw [h]; rfl)
    clear h
    go_enter Try.func66, Try.ntmps66
    go_wp2_with (first | (go_at_call 52; refine (hN.out _).mono ?_; rintro e w1 ⟨rfl, hb1⟩) | fail)
    go_ret
    exact ⟨ret_fl hf.out.symm, hb1⟩
  · have h' : nan a = false := by simpa using h
    rw [h'] at hN
    by_cases h2 : gt a b = true
    · have hf : Hid (fmax a b = a) := Lib.hid (by unfold fmax; rw [h2, h']; rfl)
      have h3 : (FloatKind.f64.format.order a b == some .gt) = true := h2
      clear h h2 h'
      go_enter Try.func66, Try.ntmps66
      go_wp2_with (first | (go_at_call 52; refine (hN.out _).mono ?_; rintro e w1 ⟨rfl, hb1⟩) | fail)
      go_ret
      exact ⟨ret_fl hf.out.symm, hb1⟩
    · have h2' : gt a b = false := by simpa using h2
      have hf : Hid (fmax a b = b) := Lib.hid (by unfold fmax; rw [h2', h']; rfl)
      have h3 : (FloatKind.f64.format.order a b == some .gt) = false := h2'
      clear h h2 h' h2'
      go_enter Try.func66, Try.ntmps66
      go_wp2_with (first | (go_at_call 52; refine (hN.out _).mono ?_; rintro e w1 ⟨rfl, hb1⟩) | fail)
      go_ret
      exact ⟨ret_fl hf.out.symm, hb1⟩

theorem unchecked_any (a b c d : Nat) (w : World) : Calls Try.prog 64 #[.agg #[fl a, fl b], .agg #[fl c, fl d]] w fun ex w' => ex = .returned (gv (some ⟨a, b, c, d⟩)) ∧ Below w.heap.size w w' := by
  go_enter Try.func64, Try.ntmps64
  go_wp2_with fail
  refine bodyPost_ret (v := gv (some ⟨a, b, c, d⟩)) ?_ rfl ⟨rfl, by (repeat first | exact Below.refl _ _ | refine Below.drew ?_ | refine Below.setCell ?_ (by simp) _ | refine Below.alloc ?_ (by simp <;> omega) _)⟩
  refine results_cell1 rfl _ rfl ?_
  unfold gv
  go_simp

theorem empty_any (x : Option Bx) (w : World) : Calls Try.prog 40 #[gv x] w fun ex w' => ex = .returned (.bool (!x.isSome)) ∧ Below w.heap.size w w' := by
  cases x
  all_goals
    unfold gv
    go_enter Try.func40, Try.ntmps40
    go_wp2_with fail
    go_ret
    exact ⟨rfl, by (repeat first | exact Below.refl _ _ | refine Below.drew ?_ | refine Below.setCell ?_ (by simp) _ | refine Below.alloc ?_ (by simp <;> omega) _)⟩

set_option maxRecDepth 100000 in
theorem minmax_none (w : World) : Calls Try.prog 62 #[gv none] w fun ex w' =>
    ex = .returned (.tuple #[.agg #[fl 0, fl 0], .agg #[fl 0, fl 0], .bool false]) ∧ Below w.heap.size w w' := by
  have hE := Lib.hid (empty_any none)
  unfold gv at hE ⊢
  go_enter Try.func62, Try.ntmps62
  go_wp2_with (first | (go_at_call 40; refine (hE.out _).mono ?_; rintro e w1 ⟨rfl, hb1⟩; have k1 := fcell hb1; have f1 := ffroz hb1) | fail)
  refine bodyPost_ret (v := .tuple #[.agg #[fl 0, fl 0], .agg #[fl 0, fl 0], .bool false]) ?_ rfl ⟨rfl, ?_⟩
  · simp [results, Try.results62, go_sem, k1]
  · exact (((((((((Below.refl _ _).alloc (Nat.le_refl _) _).alloc (by simp) _).alloc (by simp <;> omega) _)).trans (hb1.mono (by simp <;> omega))).setCell (by simp) _).setCell (by simp) _).setCell (by simp; omega) _).setCell (by simp; omega) _

set_option maxRecDepth 100000 in
theorem minmax_some (a b c d : Nat) (w : World) : Calls Try.prog 62 #[gv (some ⟨a, b, c, d⟩)] w fun ex w' =>
    ex = .returned (.tuple #[.agg #[fl a, fl b], .agg #[fl c, fl d], .bool true]) ∧ Below w.heap.size w w' := by
  have hE := Lib.hid (empty_any (some ⟨a, b, c, d⟩))
  unfold gv at hE ⊢
  go_enter Try.func62, Try.ntmps62
  go_wp2_with (first | (go_at_call 40; refine (hE.out _).mono ?_; rintro e w1 ⟨rfl, hb1⟩; have k1 := fcell hb1; have f1 := ffroz hb1) | fail)
  have c0 : w1.cell? ⟨w.heap.size, 0, none⟩ = some (fl a) := by go_simp
  have c1 : w1.cell? ⟨w.heap.size, 1, none⟩ = some (fl b) := by go_simp
  have c2 : w1.cell? ⟨w.heap.size, 2, none⟩ = some (fl c) := by go_simp
  have c3 : w1.cell? ⟨w.heap.size, 3, none⟩ = some (fl d) := by go_simp
  have hS1 : Held (w.heap.size + 1) w1 w1 := heldOf (Below.refl _ _)
  go_region_held3 (fun w' => Below (w.heap.size + 1) w1 w' ∧ ∀ b o, b < w.heap.size + 1 → w'.cell? ⟨b, o, none⟩ = w1.cell? ⟨b, o, none⟩) (with_reducible (repeat first | assumption | refine heldDrew ?_ | refine heldSet ?_ (by simp))) (fail)
  all_goals (go_wp2_with fail)
  refine bodyPost_ret (v := .tuple #[.agg #[fl a, fl b], .agg #[fl c, fl d], .bool true]) ?_ rfl ⟨rfl, ?_⟩
  · simp [results, Try.results62, go_sem, k1]
  · exact ((((((((((Below.refl _ _).alloc (Nat.le_refl _) _).alloc (by simp) _).alloc (by simp <;> omega) _)).trans (hb1.mono (by simp <;> omega))).setCell (by simp) _).setCell (by simp) _).setCell (by simp; omega) _).setCell (by simp; omega) _).drew
end Go.Proofs.Ytmgomieffmbmiaa.Ev
