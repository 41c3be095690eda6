/-
  The statements' test for whole numbers from -2^20 to 2^20.
-/
import Derived.Test.YtmdllkjlbalbpaaWalk
import Derived.Test.YtmdllkjlbalbpaaFloatInt
import Derived.Laws.Externs
import GoSem.Extern.MathFloor
namespace Go.Proofs.Ytmdllkjlbalbpaa.Whole
open Go.ChangeShapes Go.WideShapes Go.ChangeAt Go.RowKit Go.Sort
open Fl
attribute [local irreducible] wpQuiet

theorem run_arch (x : Nat) (w : World) : (callFunc 78 #[.float .f64 x]).run Try.prog w = ((Extern.MathFloor.toIntegral "math.archTrunc" .zero #[.float .f64 x]).run Try.prog w).andThen fun v w' => .ok (.value v) w' :=
  run_callFunc_extern Try.func78 (by kernel_rfl) (by kernel_rfl) (by kernel_rfl) (by kernel_rfl) _ _

/-- the entry's answer, by what the word stands for -/
def cutOf (x : Nat) : Ieee.Datum → Sem Value
  | .nan s t => if FloatKind.f64.format.quiet t = t then pure (.float .f64 x) else do
    let kept ← choose (.extern "math.Floor,Ceil,Trunc,RoundToEven.signallingNaN kept" 2)
    pure (.float .f64 (if kept == 1 then x else FloatKind.f64.encode (.nan s (FloatKind.f64.format.quiet t))))
  | d => pure (.float .f64 (FloatKind.f64.encode (d.integral .zero)))
theorem cutOf_eq (x : Nat) : Extern.MathFloor.toIntegral "math.archTrunc" .zero #[.float .f64 x] = cutOf x (Ieee.double.read x) := rfl

theorem run_arch_num {x : Nat} (h : Num x) (w : World) : (callFunc 78 #[.float .f64 x]).run Try.prog w = .ok (.value (.float .f64 (truncW x))) w := by
  rw [run_arch, cutOf_eq]
  obtain ⟨s, m, p, h⟩ := h
  unfold truncW
  rw [h]
  rfl

theorem run_arch_inf {x : Nat} {s : Bool} (h : Ieee.double.read x = .infinity s) (w : World) : (callFunc 78 #[.float .f64 x]).run Try.prog w = .ok (.value (.float .f64 (Ieee.double.word s Ieee.double.infRung))) w := by
  rw [run_arch, cutOf_eq, h]
  rfl

theorem run_arch_nan {x : Nat} (h : IsNaN x) (w : World) : ∃ y w', (w' = w ∨ w' = w.drew) ∧ (callFunc 78 #[.float .f64 x]).run Try.prog w = .ok (.value (.float .f64 y)) w' := by
  rw [run_arch, cutOf_eq]
  obtain ⟨s, t, h⟩ := h
  rw [h]
  unfold cutOf
  dsimp only
  by_cases hq : FloatKind.f64.format.quiet t = t
  · exact ⟨x, w, Or.inl rfl, by rw [if_pos hq]; rfl⟩
  · exact ⟨_, w.drew, Or.inr rfl, by rw [if_neg hq]; rfl⟩

theorem ret_bool {a b : Bool} (h : a = b) : Ending.returned (.bool a) = .returned (.bool b) := by rw [h]

/-- the three ways in which two numbers stand to each other, in the walk's spelling -/
theorem cmp3 {x y : Nat} (hx : Num x) (hy : Num y) :
    (V y < V x ∧ (FloatKind.f64.format.order x y == some .gt) = true ∧ (FloatKind.f64.format.order x y == some .eq) = false ∧ (FloatKind.f64.format.order x y == some .lt) = false) ∨
    (V x = V y ∧ (FloatKind.f64.format.order x y == some .gt) = false ∧ (FloatKind.f64.format.order x y == some .eq) = true ∧ (FloatKind.f64.format.order x y == some .lt) = false) ∨
    (V x < V y ∧ (FloatKind.f64.format.order x y == some .gt) = false ∧ (FloatKind.f64.format.order x y == some .eq) = false ∧ (FloatKind.f64.format.order x y == some .lt) = true) := by
  rw [fin_gt hx hy, fin_eq hx hy, fin_lt hx hy]
  rcases Int.lt_trichotomy (V x) (V y) with h | h | h
  · exact Or.inr (Or.inr ⟨h, decide_eq_false (by omega), decide_eq_false (by omega), decide_eq_true h⟩)
  · exact Or.inr (Or.inl ⟨h, decide_eq_false (by omega), decide_eq_true h, decide_eq_false (by omega)⟩)
  · exact Or.inl ⟨h, decide_eq_true h, decide_eq_false (by omega), decide_eq_false (by omega)⟩

set_option maxHeartbeats 2000000 in
theorem gWhole_any (x : Nat) (w : World) :
    Calls Try.prog 42 #[.float .f64 x] w fun e w' => e = .returned (.bool (gw x)) ∧ Below w.heap.size w w' := by
  rcases kinds x with h | ⟨s, h⟩ | h
  · have hr := fun w => run_arch_num h w
    obtain ⟨ht, -⟩ := trunc_num h.choose_spec.choose_spec.choose_spec
    have e1 := fin_eq h ht
    have hg := gw_num h
    by_cases ht' : V x = V (truncW x)
    · rw [decide_eq_true ht'] at e1 hg
      rcases cmp3 h W.lo.1 with ⟨a1, a2, a3, a4⟩ | ⟨a1, a2, a3, a4⟩ | ⟨a1, a2, a3, a4⟩ <;> rcases cmp3 h W.hi.1 with ⟨b1, b2, b3, b4⟩ | ⟨b1, b2, b3, b4⟩ | ⟨b1, b2, b3, b4⟩
      all_goals
        have hl : decide (V 13920626448202203136 ≤ V x) = true ∨ decide (V 13920626448202203136 ≤ V x) = false := by cases decide (V 13920626448202203136 ≤ V x) <;> simp
        have hh : decide (V x ≤ V 4697254411347427328) = true ∨ decide (V x ≤ V 4697254411347427328) = false := by cases decide (V x ≤ V 4697254411347427328) <;> simp
        have hl' : V 13920626448202203136 ≤ V x ∨ ¬ V 13920626448202203136 ≤ V x := by omega
        have hh' : V x ≤ V 4697254411347427328 ∨ ¬ V x ≤ V 4697254411347427328 := by omega
        first
          | rw [decide_eq_true (show V 13920626448202203136 ≤ V x from by omega)] at hg
          | rw [decide_eq_false (show ¬ V 13920626448202203136 ≤ V x from by omega)] at hg
        first
          | rw [decide_eq_true (show V x ≤ V 4697254411347427328 from by omega)] at hg
          | rw [decide_eq_false (show ¬ V x ≤ V 4697254411347427328 from by omega)] at hg
        have H := Lib.hid hg
        clear hg ht' a1 b1 hl hh hl' hh' h ht
        go_enter Try.func42, Try.ntmps42
        go_wp2
        go_ret
        exact ⟨ret_bool H.out, Below.refl _ _⟩
    · rw [decide_eq_false ht'] at e1 hg
      have H := Lib.hid hg
      clear hg ht' h ht
      go_enter Try.func42, Try.ntmps42
      go_wp2
      go_ret
      exact ⟨ret_bool (by rw [← H.out]; rfl), Below.refl _ _⟩
  · have hr := fun w => run_arch_inf h w
    have hg := Lib.hid (gw_inf ⟨s, h⟩)
    have e1 : (FloatKind.f64.format.order x (Ieee.double.word s Ieee.double.infRung) == some .eq) = true := by
      show (Ieee.double.order x (Ieee.double.word s Ieee.double.infRung) == some .eq) = true
      unfold Ieee.Format.order; rw [h, read_inf]; cases s <;> rfl
    have e2 : FloatKind.f64.format.order x 13920626448202203136 = some (if s then .lt else .gt) := by
      show Ieee.double.order x 13920626448202203136 = _
      obtain ⟨⟨t, m, p, hr⟩, -⟩ := W.lo
      unfold Ieee.Format.order; rw [h, hr]; rfl
    have e3 : FloatKind.f64.format.order x 4697254411347427328 = some (if s then .lt else .gt) := by
      show Ieee.double.order x 4697254411347427328 = _
      obtain ⟨⟨t, m, p, hr⟩, -⟩ := W.hi
      unfold Ieee.Format.order; rw [h, hr]; rfl
    have f2 : (FloatKind.f64.format.order x 13920626448202203136 == some .gt) = !s := by rw [e2]; cases s <;> rfl
    have f2' : (FloatKind.f64.format.order x 13920626448202203136 == some .eq) = false := by rw [e2]; cases s <;> rfl
    have f3 : (FloatKind.f64.format.order x 4697254411347427328 == some .lt) = s := by rw [e3]; cases s <;> rfl
    have f3' : (FloatKind.f64.format.order x 4697254411347427328 == some .eq) = false := by rw [e3]; cases s <;> rfl
    clear e2 e3 h
    generalize Ieee.double.word s Ieee.double.infRung = y at hr e1
    cases s
    all_goals
      go_enter Try.func42, Try.ntmps42
      go_wp2
      go_ret
      exact ⟨ret_bool hg.out.symm, Below.refl _ _⟩
  · obtain ⟨y, w1, hw1, hr⟩ := run_arch_nan h w
    have hg := Lib.hid (gw_nan h)
    have e1 : (FloatKind.f64.format.order x y == some .eq) = false := by
      show (Ieee.double.order x y == some .eq) = false
      rw [order_nan_left h]; rfl
    clear h
    have hr' : ∀ v, v = w → (callFunc 78 #[.float .f64 x]).run Try.prog v = .ok (.value (.float .f64 y)) w1 := fun v hv => by rw [hv]; exact hr
    clear hr
    have hbb : Hid (Below w.heap.size w w1) := by
      rcases hw1 with rfl | rfl
      · exact Below.refl _ _
      · exact (Below.refl _ _).drew
    clear hw1
    go_enter Try.func42, Try.ntmps42
    go_wp2
    go_ret
    exact ⟨ret_bool hg.out.symm, hbb.out⟩
end Go.Proofs.Ytmdllkjlbalbpaa.Whole
