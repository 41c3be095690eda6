/-
  The walk of 'FnRadialOrder': the order of directions about a place is one.
-/
import Derived.Test.YtmdllkjlbalbpaaRadial
import Derived.Test.YtmdllkjlbalbpaaFnTurnWalk
namespace Go.Proofs.Ytmdllkjlbalbpaa.FnRadialOrder
open Go.ChangeShapes Go.WideShapes Go.ChangeAt Go.RowKit Go.Sort Go.Joins
open Fl Geo Formed FnTurn Radial
attribute [local irreducible] wpQuiet

/-- whether two places are one (a name that the walk does not lay open) -/
def same (a b c d : Int) : Bool := decide (a = c ∧ b = d)
theorem same_true {a b c d : Int} (h : a = c ∧ b = d) : same a b c d = true := decide_eq_true h
theorem same_false {a b c d : Int} (h : ¬ (a = c ∧ b = d)) : same a b c d = false := decide_eq_false h

theorem eq_pt (a b c d : Int) (w : World) : (Op.equalIn 10000 27 (.agg #[.int .i64 a, .int .i64 b]) (.agg #[.int .i64 c, .int .i64 d])).run Try.prog w = .ok (same a b c d) w := by
  rw [show (10000 : Nat) = 9999 + 1 from rfl, run_equalIn_agg w 9999 27 _ _ (by kernel_rfl) (by kernel_rfl)]
  simp only [Program.fieldsOf, Try.underlying27]
  go_simp
  unfold same
  by_cases h1 : a = c <;> by_cases h2 : b = d <;> simp [h1, h2]
theorem run_eql_pt (a b c d : Int) (w : World) : (binOp .eql 27 (.agg #[.int .i64 a, .int .i64 b]) (.agg #[.int .i64 c, .int .i64 d])).run Try.prog w = .ok (.bool (same a b c d)) w := by
  rw [run_eql_struct, eq_pt]; rfl
theorem run_neq_pt (a b c d : Int) (w : World) : (binOp .neq 27 (.agg #[.int .i64 a, .int .i64 b]) (.agg #[.int .i64 c, .int .i64 d])).run Try.prog w = .ok (.bool (!same a b c d)) w := by
  rw [run_neq_struct, eq_pt]; rfl
attribute [local go_sem ↓] run_eql_pt run_neq_pt

set_option maxHeartbeats 2000000 in
theorem core0 (px py qx qy sx sy : Int) (w : World) (h : same px py 0 0 = true ∨ same px py 0 0 = false ∧ (same qx qy 0 0 = true ∨ same qx qy 0 0 = false ∧ same sx sy 0 0 = true)) :
    Calls Try.prog 5 #[pt px py, pt qx qy, pt sx sy] w fun e w' => e = .returned (.bool true) ∧ Below w.heap.size w w' := by
  rcases h with h | ⟨h, h' | ⟨h', h''⟩⟩
  all_goals
    go_enter Try.func5, Try.ntmps5
    go_wp2_with fail
    go_ret
    exact ⟨rfl, ((((Below.refl _ _).alloc (Nat.le_refl _) _).alloc (by simp) _).alloc (by simp <;> omega) _)⟩

set_option maxHeartbeats 2000000 in
theorem core (px py qx qy sx sy : Int) (w : World) (hwf : ∀ p ∈ [(px, py), (qx, qy), (sx, sy)], -9223372036854775808 ≤ p.1 ∧ p.1 ≤ 9223372036854775807 ∧ -9223372036854775808 ≤ p.2 ∧ p.2 ≤ 9223372036854775807)
    (z1 : same px py 0 0 = false) (z2 : same qx qy 0 0 = false) (z3 : same sx sy 0 0 = false) :
    Calls Try.prog 5 #[pt px py, pt qx qy, pt sx sy] w fun e w' => e = .returned (.bool true) ∧ Below w.heap.size w w' := by
  have hwf' := Lib.hid hwf
  clear hwf
  go_enter Try.func5, Try.ntmps5
  go_wp2_with fail
  refine (dPlaces_any 1048576 (by omega) (by omega) (some ⟨w.heap.size + 1 + 1 + 1, 0, none⟩) 3 [(px, py), (qx, qy), (sx, sy)] (by simp) _ ?_ hwf'.out).mono ?_
  · refine Or.inr ⟨w.heap.size + 1 + 1 + 1, 0, rfl, by simp <;> omega, fun j hj => ?_⟩
    have : j = 0 ∨ j = 1 ∨ j = 2 := by simp at hj; omega
    rcases this with rfl | rfl | rfl <;> constructor <;> go_simp
  rintro e w1 ⟨rfl, hb1⟩
  obtain ⟨hc, hf⟩ := bcell hb1
  have hz : w.heap.size + 1 + 1 + 1 < w1.heap.size := by have := hb1.size; simp at this; omega
  have hbb : Below w.heap.size w w1 := ((((((Below.refl _ _).alloc (Nat.le_refl _) _).alloc (by simp) _).alloc (by simp <;> omega) _).alloc (by simp <;> omega) _)).trans (hb1.mono (by simp <;> omega))
  have k1 : w1.cell? ⟨w.heap.size, 0, none⟩ = some (.int .i64 px) := by rw [hc _ _ (by simp <;> omega)]; go_simp
  have k2 : w1.cell? ⟨w.heap.size, 1, none⟩ = some (.int .i64 py) := by rw [hc _ _ (by simp <;> omega)]; go_simp
  have k3 : w1.cell? ⟨w.heap.size + 1, 0, none⟩ = some (.int .i64 qx) := by rw [hc _ _ (by simp <;> omega)]; go_simp
  have k4 : w1.cell? ⟨w.heap.size + 1, 1, none⟩ = some (.int .i64 qy) := by rw [hc _ _ (by simp <;> omega)]; go_simp
  have k5 : w1.cell? ⟨w.heap.size + 1 + 1, 0, none⟩ = some (.int .i64 sx) := by rw [hc _ _ (by simp <;> omega)]; go_simp
  have k6 : w1.cell? ⟨w.heap.size + 1 + 1, 1, none⟩ = some (.int .i64 sy) := by rw [hc _ _ (by simp <;> omega)]; go_simp
  clear hc hf hb1
  by_cases hin : [(px, py), (qx, qy), (sx, sy)].all (inBd 1048576) = true
  · have hin' := in3.1 hin
    rw [hin, show decide ([(px, py), (qx, qy), (sx, sy)].length ≤ 200) = true from rfl, Bool.and_true]
    obtain ⟨⟨b1, b2⟩, ⟨b3, b4⟩, b5, b6⟩ := hin'
    have c1 := Lib.hid fun w => impl_radial _ _ _ _ px py qx qy (W.ofInt px (by omega)) (W.ofInt py (by omega)) (W.ofInt qx (by omega)) (W.ofInt qy (by omega)) b1 b2 b3 b4 w
    have c2 := Lib.hid fun w => impl_radial _ _ _ _ qx qy px py (W.ofInt qx (by omega)) (W.ofInt qy (by omega)) (W.ofInt px (by omega)) (W.ofInt py (by omega)) b3 b4 b1 b2 w
    have c3 := Lib.hid fun w => impl_radial _ _ _ _ qx qy sx sy (W.ofInt qx (by omega)) (W.ofInt qy (by omega)) (W.ofInt sx (by omega)) (W.ofInt sy (by omega)) b3 b4 b5 b6 w
    have c4 := Lib.hid fun w => impl_radial _ _ _ _ px py sx sy (W.ofInt px (by omega)) (W.ofInt py (by omega)) (W.ofInt sx (by omega)) (W.ofInt sy (by omega)) b1 b2 b5 b6 w
    have n1 : ¬ (px = 0 ∧ py = 0) := of_decide_eq_false z1
    have n2 : ¬ (qx = 0 ∧ qy = 0) := of_decide_eq_false z2
    have n3 : ¬ (sx = 0 ∧ sy = 0) := of_decide_eq_false z3
    have hsame : ∃ b, same px py qx qy = b ∧ ((b = true ∧ rl px py qx qy = false ∧ rl qx qy px py = false) ∨ (b = false ∧ rl px py qx qy = !rl qx qy px py)) := by
      by_cases he : px = qx ∧ py = qy
      · obtain ⟨rfl, rfl⟩ := he
        exact ⟨true, same_true ⟨rfl, rfl⟩, Or.inl ⟨rfl, rl_irrefl _ _, rl_irrefl _ _⟩⟩
      · exact ⟨false, same_false he, Or.inr ⟨rfl, rl_one n1 n2 he⟩⟩
    have htr : rl px py qx qy = true → rl qx qy sx sy = true → rl px py sx sy = true := rl_trans n1 n2 n3
    generalize rl px py qx qy = ab at *
    generalize rl qx qy px py = ba at *
    generalize rl qx qy sx sy = bc at *
    generalize rl px py sx sy = ac at *
    clear b1 b2 b3 b4 b5 b6 hin hwf' n1 n2 n3
    have hor : (ab = false ∨ (ab = true ∧ (bc = false ∨ (bc = true ∧ ac = true)))) := by
      cases ab <;> cases bc <;> simp_all
    clear htr
    obtain ⟨sm, hsm, hcase⟩ := hsame
    go_wp2_with fail
    refine region_reads (fun w' => w'.cell? ⟨w.heap.size, 0, none⟩ = some (.int .i64 px) ∧ w'.cell? ⟨w.heap.size, 1, none⟩ = some (.int .i64 py) ∧
      w'.cell? ⟨w.heap.size + 1, 0, none⟩ = some (.int .i64 qx) ∧ w'.cell? ⟨w.heap.size + 1, 1, none⟩ = some (.int .i64 qy) ∧
      w'.cell? ⟨w.heap.size + 1 + 1, 0, none⟩ = some (.int .i64 sx) ∧ w'.cell? ⟨w.heap.size + 1 + 1, 1, none⟩ = some (.int .i64 sy))
      (fun d os => ⟨cell_regrown k1 d os, cell_regrown k2 d os, cell_regrown k3 d os, cell_regrown k4 d os, cell_regrown k5 d os, cell_regrown k6 d os⟩) (by kernel_rfl) (by kernel_rfl) ?_
    intro W1 hz1 hS
    have hS' := Lib.hid hS
    simp only [forall_and] at hS
    obtain ⟨g1, g2, g3, g4, g5, g6⟩ := hS
    repeat (refine @quiet_cons _ _ _ _ _ _ _ _ rfl (fun K hK => ?_); go_simp; first | (refine hK _ ?_; clear hK K) | (apply Exists.intro; refine ⟨fun _ => ?_, hK _ ?_⟩; (first | with_reducible exact Calls.regrown_of (lxy_any px py _) | with_reducible exact Calls.regrown_of (lxy_any qx qy _) | with_reducible exact Calls.regrown_of (c1.out _) | with_reducible exact Calls.regrown_of (c2.out _)); clear hK K))
    refine quiet_nil rfl ?_
    clear g1 g2 g3 g4 g5 g6 hS' hz1
    intro w2 hb2
    have hz2 := hb2.size
    have k1' : w2.cell? ⟨w.heap.size, 0, none⟩ = some (.int .i64 px) := by rw [hb2.cell (by dsimp only; omega)]; exact k1
    have k2' : w2.cell? ⟨w.heap.size, 1, none⟩ = some (.int .i64 py) := by rw [hb2.cell (by dsimp only; omega)]; exact k2
    have k3' : w2.cell? ⟨w.heap.size + 1, 0, none⟩ = some (.int .i64 qx) := by rw [hb2.cell (by dsimp only; omega)]; exact k3
    have k4' : w2.cell? ⟨w.heap.size + 1, 1, none⟩ = some (.int .i64 qy) := by rw [hb2.cell (by dsimp only; omega)]; exact k4
    have k5' : w2.cell? ⟨w.heap.size + 1 + 1, 0, none⟩ = some (.int .i64 sx) := by rw [hb2.cell (by dsimp only; omega)]; exact k5
    have k6' : w2.cell? ⟨w.heap.size + 1 + 1, 1, none⟩ = some (.int .i64 sy) := by rw [hb2.cell (by dsimp only; omega)]; exact k6
    have hbb2 : Below w.heap.size w w2 := hbb.trans (hb2.mono (by omega))
    clear hb2 hbb k1 k2 k3 k4 k5 k6
    have hall : (ab = false ∧ (sm = true ∧ ba = false ∨ sm = false ∧ ba = true)) ∨ (ab = true ∧ sm = false ∧ ba = false ∧ (bc = false ∨ bc = true ∧ ac = true)) := by
      revert hcase hor
      cases ab <;> cases ba <;> cases bc <;> cases ac <;> cases sm <;> simp
    clear hcase hor
    rcases hall with ⟨rfl, ⟨rfl, rfl⟩ | ⟨rfl, rfl⟩⟩ | ⟨rfl, rfl, rfl, rfl | ⟨rfl, rfl⟩⟩
    all_goals
      go_wp2_with fail
      refine region_reads (fun w' => w'.cell? ⟨w.heap.size, 0, none⟩ = some (.int .i64 px) ∧ w'.cell? ⟨w.heap.size, 1, none⟩ = some (.int .i64 py) ∧
        w'.cell? ⟨w.heap.size + 1, 0, none⟩ = some (.int .i64 qx) ∧ w'.cell? ⟨w.heap.size + 1, 1, none⟩ = some (.int .i64 qy) ∧
        w'.cell? ⟨w.heap.size + 1 + 1, 0, none⟩ = some (.int .i64 sx) ∧ w'.cell? ⟨w.heap.size + 1 + 1, 1, none⟩ = some (.int .i64 sy))
        (fun d os => ⟨cell_regrown k1' d os, cell_regrown k2' d os, cell_regrown k3' d os, cell_regrown k4' d os, cell_regrown k5' d os, cell_regrown k6' d os⟩) (by kernel_rfl) (by kernel_rfl) ?_
      intro W1 hz1 hS
      simp only [forall_and] at hS
      obtain ⟨g1, g2, g3, g4, g5, g6⟩ := hS
      repeat (refine @quiet_cons _ _ _ _ _ _ _ _ rfl (fun K hK => ?_); go_simp; first | (refine hK _ ?_; clear hK K) | (apply Exists.intro; refine ⟨fun _ => ?_, hK _ ?_⟩; (first | with_reducible exact Calls.regrown_of (lxy_any px py _) | with_reducible exact Calls.regrown_of (lxy_any qx qy _) | with_reducible exact Calls.regrown_of (lxy_any sx sy _) | with_reducible exact Calls.regrown_of (c3.out _) | with_reducible exact Calls.regrown_of (c4.out _)); clear hK K))
      refine quiet_nil rfl ?_
      clear g1 g2 g3 g4 g5 g6 hz1
      intro w3 hb3
      have hbb3 : Below w.heap.size w w3 := hbb2.trans (hb3.mono (by omega))
      clear hb3 hbb2
      go_wp2_with fail
      go_ret
      exact ⟨rfl, hbb3⟩
  · rw [show [(px, py), (qx, qy), (sx, sy)].all (inBd 1048576) = false from by simpa using hin, Bool.and_false]
    clear hin hwf'
    go_wp2_with fail
    go_ret
    exact ⟨rfl, hbb⟩

section
variable {H : Type} {enc : TypeId × Value → H} {W : World} {base : Nat}
set_option maxRecDepth 100000 in
theorem walk {v0 v1 v2 : Value} {d0 d1 d2 : DataW H} {p0 p1 p2 : List MemPlace}
    (o0 : Value.okWide Try.prog W .any base 27 v0) (h0 : DataW.Trod enc Try.prog W 0 (fun _ => true) true 27 v0 d0 p0)
    (o1 : Value.okWide Try.prog W .any base 27 v1) (h1 : DataW.Trod enc Try.prog W 0 (fun _ => true) true 27 v1 d1 p1)
    (o2 : Value.okWide Try.prog W .any base 27 v2) (h2 : DataW.Trod enc Try.prog W 0 (fun _ => true) true 27 v2 d2 p2) :
    Calls Try.prog 5 #[v0, v1, v2] W fun e w' => e = .returned (.bool true) ∧ Below W.heap.size W w' := by
  obtain ⟨px, py, rfl, a1, a2⟩ := open_pt o0 h0
  obtain ⟨qx, qy, rfl, a3, a4⟩ := open_pt o1 h1
  obtain ⟨sx, sy, rfl, a5, a6⟩ := open_pt o2 h2
  have hcore := core px py qx qy sx sy W (fun p hp => by
    simp only [List.mem_cons, List.not_mem_nil, or_false] at hp
    rcases hp with rfl | rfl | rfl <;> (dsimp only; omega))
  have h0 := core0 px py qx qy sx sy W
  cases z1 : same px py 0 0
  · cases z2 : same qx qy 0 0
    · cases z3 : same sx sy 0 0
      · exact hcore z1 z2 z3
      · exact h0 (Or.inr ⟨z1, Or.inr ⟨z2, z3⟩⟩)
    · exact h0 (Or.inr ⟨z1, Or.inl z2⟩)
  · exact h0 (Or.inl z1)
end
end Go.Proofs.Ytmdllkjlbalbpaa.FnRadialOrder
