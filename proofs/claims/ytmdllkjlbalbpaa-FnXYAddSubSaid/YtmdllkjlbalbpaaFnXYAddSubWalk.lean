/-
  The walk of 'FnXYAddSub': a place of whole numbers to which another such place is added and taken away again is as it was.
-/
import Derived.Test.YtmdllkjlbalbpaaVec
import Derived.Test.YtmdllkjlbalbpaaOpen
import Derived.OpenShut
namespace Go.Proofs.Ytmdllkjlbalbpaa.FnXYAddSub
open Go.ChangeShapes Go.WideShapes Go.ChangeAt Go.RowKit Go.Sort Go.Joins
open Fl Geo Whole Vec
attribute [local irreducible] wpQuiet

/-- '==' of two floats within a struct (the kit has the law for integers, bools, strings) -/
theorem run_equalIn_float {P : Program} (w : World) (d : Nat) (t : TypeId) (k k' : FloatKind) (a b : Nat) (h : P.underlying t = some (.float k')) : (Op.equalIn (d + 1) t (.float k a) (.float k b)).run P w = .ok (k.format.order a b == some .eq) w := by
  simp [Op.equalIn, run_underlying h]
  rfl

/-- whether two places are one (a name that the walk does not lay open) -/
def same (a b c d : Nat) : Bool := (FloatKind.f64.format.order a c == some .eq) && (FloatKind.f64.format.order b d == some .eq)
theorem eq_xy (a b c d : Nat) (w : World) : (Op.equalIn 10000 32 (.agg #[.float .f64 a, .float .f64 b]) (.agg #[.float .f64 c, .float .f64 d])).run Try.prog w = .ok (same a b c d) w := by
  have e1 := fun (a b : Nat) (w : World) => run_equalIn_float (P := Try.prog) w 9998 30 .f64 .f64 a b Try.underlying30
  rw [show (10000 : Nat) = 9999 + 1 from rfl, run_equalIn_agg w 9999 32 _ _ (by kernel_rfl) (by kernel_rfl)]
  simp only [Program.fieldsOf, Try.underlying32]
  go_simp
  unfold same
  by_cases h1 : FloatKind.f64.format.order a c = some .eq <;> by_cases h2 : FloatKind.f64.format.order b d = some .eq <;> simp [h1, h2]
theorem run_eql_xy (a b c d : Nat) (w : World) : (binOp .eql 32 (.agg #[.float .f64 a, .float .f64 b]) (.agg #[.float .f64 c, .float .f64 d])).run Try.prog w = .ok (.bool (same a b c d)) w := by
  rw [run_eql_struct, eq_xy]; rfl
attribute [local go_sem ↓] run_eql_xy


set_option maxHeartbeats 2000000 in
theorem core (ax ay bx bY : Nat) (w : World) :
    Calls Try.prog 7 #[vec ax ay, vec bx bY] w fun e w' => e = .returned (.bool true) ∧ Below w.heap.size w w' := by
  go_enter Try.func7, Try.ntmps7
  go_wp2_with fail
  refine region_stages (by kernel_rfl) ?_
  refine stage_loads (m := 2) (by kernel_rfl) ⟨by decide, by decide⟩ ?_
  simp only [List.take_succ_cons, List.take_zero, List.drop_zero]
  repeat (refine @quiet_cons _ _ _ _ _ _ _ _ rfl (fun K hK => ?_); go_simp; first | (refine hK _ ?_; clear hK K) | (apply Exists.intro; refine ⟨fun _ => ?_, hK _ ?_⟩; (fail); clear hK K))
  refine quiet_nil rfl ?_
  refine stage_steps (m := 6) (by kernel_rfl) ⟨by decide, by decide⟩ ?_
  simp only [List.take_succ_cons, List.take_zero, List.drop_zero, List.drop_succ_cons]
  go_wp2_with fail
  refine (vWhole_any (some ⟨w.heap.size + 1 + 1, 0, none⟩) 2 [(ax, ay), (bx, bY)] (by simp) _ ?_).mono ?_
  · refine Or.inr ⟨w.heap.size + 1 + 1, 0, rfl, by simp, fun j hj => ?_⟩
    have : j = 0 ∨ j = 1 := by simp at hj; omega
    rcases this with rfl | rfl <;> constructor <;> go_simp
  rintro e w1 ⟨rfl, hb1⟩
  have hz : w.heap.size + 1 + 1 < w1.heap.size := by have := hb1.size; simp at this; omega
  have hbb : Below w.heap.size w w1 := (((((Below.refl _ _).alloc (Nat.le_refl _) _).alloc (by simp) _).alloc (by simp <;> omega) _)).drew.trans (hb1.mono (by simp <;> omega))
  have k1 : w1.cell? ⟨w.heap.size, 0, none⟩ = some (.float .f64 ax) := kcell hb1 (by simp <;> omega) (by go_simp)
  have k2 : w1.cell? ⟨w.heap.size, 1, none⟩ = some (.float .f64 ay) := kcell hb1 (by simp <;> omega) (by go_simp)
  have k3 : w1.cell? ⟨w.heap.size + 1, 0, none⟩ = some (.float .f64 bx) := kcell hb1 (by simp <;> omega) (by go_simp)
  have k4 : w1.cell? ⟨w.heap.size + 1, 1, none⟩ = some (.float .f64 bY) := kcell hb1 (by simp <;> omega) (by go_simp)
  clear hb1
  by_cases hin : [(ax, ay), (bx, bY)].all gw2 = true
  · have hin' : GW ax ∧ GW ay ∧ GW bx ∧ GW bY := by
      simp only [List.all_cons, List.all_nil, gw2, Bool.and_eq_true, gw_iff, and_true] at hin
      exact ⟨hin.1.1, hin.1.2, hin.2.1, hin.2.2⟩
    rw [hin]
    obtain ⟨⟨a1, a2, a3, wa1⟩, ⟨a4, a5, a6, wa2⟩, ⟨b1, b2, b3, wb1⟩, b4, b5, b6, wb2⟩ := hin'
    obtain ⟨r, h1, wr⟩ := wa1.add wb1 (by omega)
    obtain ⟨s, h2, ws⟩ := wa2.add wb2 (by omega)
    obtain ⟨r', h3, wr'⟩ := wr.sub wb1 (by omega)
    obtain ⟨s', h4, ws'⟩ := ws.sub wb2 (by omega)
    have c1 := Lib.hid fun w => xyAdd_any ax ay bx bY r s h1 h2 w
    have c2 := Lib.hid fun w => xySub_any r s bx bY r' s' h3 h4 w
    have hs : same r' s' ax ay = true := by
      unfold same
      rw [wr'.eq wa1, ws'.eq wa2, decide_eq_true (by omega), decide_eq_true (by omega)]; rfl
    clear h1 h2 h3 h4 wr ws wr' ws' wa1 wa2 wb1 wb2 hin a2 a3 a5 a6 b2 b3 b5 b6
    go_wp2_with fail
    refine stage_reads (m := 15) (fun w' => w'.cell? ⟨w.heap.size, 0, none⟩ = some (.float .f64 ax) ∧ w'.cell? ⟨w.heap.size, 1, none⟩ = some (.float .f64 ay) ∧
      w'.cell? ⟨w.heap.size + 1, 0, none⟩ = some (.float .f64 bx) ∧ w'.cell? ⟨w.heap.size + 1, 1, none⟩ = some (.float .f64 bY))
      (fun d os => ⟨cell_regrown k1 d os, cell_regrown k2 d os, cell_regrown k3 d os, cell_regrown k4 d os⟩) (by kernel_rfl) ⟨by decide, by decide⟩ ?_
    clear k1 k2 k3 k4
    intro W1 hz1 hS
    simp only [forall_and] at hS
    obtain ⟨k1, k2, k3, k4⟩ := hS
    simp only [List.take_succ_cons, List.take_zero, List.drop_zero, List.drop_succ_cons]
    repeat (refine @quiet_cons _ _ _ _ _ _ _ _ rfl (fun K hK => ?_); go_simp; first | (refine hK _ ?_; clear hK K) | (apply Exists.intro; refine ⟨fun _ => ?_, hK _ ?_⟩; (first | with_reducible exact Calls.regrown_of (c1.out _) | with_reducible exact Calls.regrown_of (c2.out _)); clear hK K))
    refine quiet_nil rfl ?_
    intro w2 hb2
    refine stage_done rfl ?_
    have hb3 : Below w.heap.size w w2 := hbb.trans (hb2.mono (by omega))
    clear hb2 hbb hz k1 k2 k3 k4
    go_wp2_with fail
    go_ret
    exact ⟨rfl, hb3⟩
  · rw [show [(ax, ay), (bx, bY)].all gw2 = false from by simpa using hin]
    clear hin
    go_wp2_with fail
    refine stage_loads (m := 15) (by kernel_rfl) ⟨by decide, by decide⟩ ?_
    simp only [List.take_succ_cons, List.take_zero, List.drop_zero, List.drop_succ_cons]
    repeat (refine @quiet_cons _ _ _ _ _ _ _ _ rfl (fun K hK => ?_); go_simp; first | (refine hK _ ?_; clear hK K) | (apply Exists.intro; refine ⟨fun _ => ?_, hK _ ?_⟩; (fail); clear hK K))
    refine quiet_nil rfl ?_
    refine stage_done rfl ?_
    go_wp2_with fail
    go_ret
    exact ⟨rfl, hbb⟩

section
variable {H : Type} {enc : TypeId × Value → H} {W : World} {base : Nat}
set_option maxRecDepth 100000 in
theorem open_xy {v : Value} {d : DataW H} {p : List MemPlace} (hv : Value.okWide Try.prog W .any base 32 v) (h : DataW.Trod enc Try.prog W 0 (fun _ => true) true 32 v d p) :
    ∃ x y : Nat, v = vec x y := by
  obtain ⟨c0, c1, y0, y1, m, rfl, rfl, rfl, hy0, hy1⟩ := open_agg2 Try.underlying32 (by kernel_rfl) (by kernel_rfl) hv h
  obtain ⟨a, e0, -, -⟩ := trod_float Try.underlying30 hy0
  obtain ⟨b, e1, -, -⟩ := trod_float Try.underlying30 hy1
  simp at e0 e1
  subst e0 e1
  exact ⟨a, b, rfl⟩

set_option maxRecDepth 100000 in
theorem walk {v0 v1 : Value} {d0 d1 : DataW H} {p0 p1 : List MemPlace}
    (o0 : Value.okWide Try.prog W .any base 32 v0) (h0 : DataW.Trod enc Try.prog W 0 (fun _ => true) true 32 v0 d0 p0)
    (o1 : Value.okWide Try.prog W .any base 32 v1) (h1 : DataW.Trod enc Try.prog W 0 (fun _ => true) true 32 v1 d1 p1) :
    Calls Try.prog 7 #[v0, v1] W fun e w' => e = .returned (.bool true) ∧ Below W.heap.size W w' := by
  obtain ⟨ax, ay, rfl⟩ := open_xy o0 h0
  obtain ⟨bx, bY, rfl⟩ := open_xy o1 h1
  exact core ax ay bx bY W
end
end Go.Proofs.Ytmdllkjlbalbpaa.FnXYAddSub
