/-
  'NewEnvelope' of two places, 'impl.envelope', 'impl.plainEnvelope', 'impl.EnvExpand'.
-/
import Derived.Test.YtmgomieffmbmiaaEnvJoin
namespace Go.Proofs.Ytmgomieffmbmiaa.Ev
open Go.ChangeShapes Go.WideShapes Go.ChangeAt Go.RowKit Go.Sort
open Fi
attribute [local irreducible] wpQuiet
attribute [local go_sem ↓] Go.wp_at_zero Go.wp_at_succ

/-- an envelope in a block -/
def EC (w : World) (p : Nat) (a b c d : Nat) (f : Bool) : Prop :=
  w.cell? ⟨p, 0, none⟩ = some (fl a) ∧ w.cell? ⟨p, 1, none⟩ = some (fl b) ∧ w.cell? ⟨p, 2, none⟩ = some (fl c) ∧ w.cell? ⟨p, 3, none⟩ = some (fl d) ∧ w.cell? ⟨p, 4, none⟩ = some (.bool f) ∧ ∀ j, w.frozen? ⟨p, j, none⟩ = false

set_option maxRecDepth 100000 in
set_option maxHeartbeats 2000000 in
theorem new_any (g x1 y1 x2 y2 : Nat) (w : World) (hg : g < w.heap.size) (c0 : w.cell? ⟨g, 0, none⟩ = some (fl x1)) (c1 : w.cell? ⟨g, 1, none⟩ = some (fl y1)) (c2 : w.cell? ⟨g, 2, none⟩ = some (fl x2)) (c3 : w.cell? ⟨g, 3, none⟩ = some (fl y2)) :
    Calls Try.prog 63 #[.slice (some ⟨g, 0, none⟩) 2 2] w fun ex w' => ex = .returned (gv (some ⟨fmin x1 x2, fmin y1 y2, fmax x1 x2, fmax y1 y2⟩)) ∧ Below w.heap.size w w' := by
  have hX := Lib.hid (expand_none x1 y1)
  have hY := Lib.hid (expand_some x1 y1 x1 y1 x2 y2)
  unfold gv at hX hY ⊢
  go_enter Try.func63, Try.ntmps63
  go_wp2_with fail
  go_loopw [8] (fun i wr => ((i = .int .i64 0 ∧ EC wr (w.heap.size + 1) 0 0 0 0 false) ∨ (i = .int .i64 1 ∧ EC wr (w.heap.size + 1) x1 y1 x1 y1 true) ∨ (i = .int .i64 2 ∧ EC wr (w.heap.size + 1) (fmin x1 x2) (fmin y1 y2) (fmax x1 x2) (fmax y1 y2) true)) ∧ EC wr w.heap.size 0 0 0 0 false ∧ Below w.heap.size w wr ∧ w.heap.size + 2 ≤ wr.heap.size) (fun i _ => 2 - (intOf i).toNat)
  case atStart => exact ⟨Or.inl ⟨rfl, by go_simp, by go_simp, by go_simp, by go_simp, by go_simp, fun j => by go_simp⟩, ⟨by go_simp, by go_simp, by go_simp, by go_simp, by go_simp, fun j => by go_simp⟩, (((Below.refl _ _).alloc (Nat.le_refl _) _).alloc (by simp) _), by simp⟩
  case round =>
    obtain ⟨hE, hR, hb, hz⟩ := hrel
    have c0 := (hb.cell (p := ⟨g, 0, none⟩) hg).trans c0
    have c1 := (hb.cell (p := ⟨g, 1, none⟩) hg).trans c1
    have c2 := (hb.cell (p := ⟨g, 2, none⟩) hg).trans c2
    have c3 := (hb.cell (p := ⟨g, 3, none⟩) hg).trans c3
    rcases hE with ⟨rfl, hE⟩ | ⟨rfl, hE⟩ | ⟨rfl, hE⟩
    · obtain ⟨p0, p1, p2, p3, p4, pf⟩ := hE
      obtain ⟨r0, r1, r2, r3, r4, rf⟩ := hR
      have n0 := World.new_ne wr _ c0
      have k7 := fun o => fcell ((Below.refl (w.heap.size + 2) wr).alloc hz o)
      have k8 := fun o => ffroz ((Below.refl (w.heap.size + 2) wr).alloc hz o)
      go_wp2_with (first | (go_at_call 90; (with_reducible refine (hX.out _).mono ?_); rintro e w1 ⟨rfl, hb1⟩; refine old_k hb1 (w.heap.size + 1) (by simp; omega) ?_; intro _ _ _ _ _ _ _ _; refine old_k hb1 (w.heap.size) (by simp; omega) ?_; intro _ _ _ _ _ _ _ _) | fail)
      go_roundw
      case rel =>
        have hz' := hb1.size
        refine ⟨Or.inr (Or.inl ⟨rfl, ?_⟩), ?_, ?_, ?_⟩
        · exact ⟨by go_simp, by go_simp, by go_simp, by go_simp, by go_simp, fun j => by go_simp⟩
        · exact ⟨by go_simp, by go_simp, by go_simp, by go_simp, by go_simp, fun j => by go_simp⟩
        · have hq : Below w.heap.size w w1 := (hb.alloc hb.size _).trans (hb1.mono (by simp; omega))
          repeat with_reducible first | exact hq | refine Below.setCell ?_ (by simp <;> omega) _
        · simp at hz' ⊢
          omega
      case measure => simp [intOf]
    · obtain ⟨p0, p1, p2, p3, p4, pf⟩ := hE
      obtain ⟨r0, r1, r2, r3, r4, rf⟩ := hR
      have n0 := World.new_ne wr _ c0
      have k7 := fun o => fcell ((Below.refl (w.heap.size + 2) wr).alloc hz o)
      have k8 := fun o => ffroz ((Below.refl (w.heap.size + 2) wr).alloc hz o)
      go_wp2_with (first | (go_at_call 90; (with_reducible refine (hY.out _).mono ?_); rintro e w1 ⟨rfl, hb1⟩; refine old_k hb1 (w.heap.size + 1) (by simp; omega) ?_; intro _ _ _ _ _ _ _ _; refine old_k hb1 (w.heap.size) (by simp; omega) ?_; intro _ _ _ _ _ _ _ _) | fail)
      go_roundw
      case rel =>
        have hz' := hb1.size
        refine ⟨Or.inr (Or.inr ⟨rfl, ?_⟩), ?_, ?_, ?_⟩
        · exact ⟨by go_simp, by go_simp, by go_simp, by go_simp, by go_simp, fun j => by go_simp⟩
        · exact ⟨by go_simp, by go_simp, by go_simp, by go_simp, by go_simp, fun j => by go_simp⟩
        · have hq : Below w.heap.size w w1 := (hb.alloc hb.size _).trans (hb1.mono (by simp; omega))
          repeat with_reducible first | exact hq | refine Below.setCell ?_ (by simp <;> omega) _
        · simp at hz' ⊢
          omega
      case measure => simp [intOf]
    · obtain ⟨p0, p1, p2, p3, p4, pf⟩ := hE
      obtain ⟨r0, r1, r2, r3, r4, rf⟩ := hR
      go_wp2_with fail
      refine bodyPost_ret (v := .agg #[fl (fmin x1 x2), fl (fmin y1 y2), fl (fmax x1 x2), fl (fmax y1 y2), .bool true]) (results_cell1 rfl _ rfl (by go_simp)) rfl ⟨rfl, ?_⟩
      repeat with_reducible first | exact hb | refine Below.setCell ?_ (by simp <;> omega) _
end Go.Proofs.Ytmgomieffmbmiaa.Ev
