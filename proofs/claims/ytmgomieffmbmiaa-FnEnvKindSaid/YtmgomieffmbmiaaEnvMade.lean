/-
  'eCorners', 'eOf', 'eMade': the envelope that two corners stand for.
-/
import Derived.Test.YtmgomieffmbmiaaEnvPlain
namespace Go.Proofs.Ytmgomieffmbmiaa.Ev
open Go.ChangeShapes Go.WideShapes Go.ChangeAt Go.RowKit Go.Sort
open Fi
attribute [local irreducible] wpQuiet
attribute [local go_sem ↓] Go.wp_at_zero Go.wp_at_succ

def gmin (a b : Nat) : Nat := if lt b a = true then b else a
def gmax (a b : Nat) : Nat := if gt b a = true then b else a
def madeB (x : Bx) : Bx := ⟨gmin x.a x.c, gmin x.b x.d, gmax x.a x.c, gmax x.b x.d⟩
def made (f : Bool) (x : Bx) : Option Bx := if f = true then some (madeB x) else none

/-- a plain envelope in a block -/
def PC (w : World) (p : Nat) (f : Bool) (a b c d : Nat) : Prop :=
  w.cell? ⟨p, 0, none⟩ = some (.bool f) ∧ w.cell? ⟨p, 1, none⟩ = some (fl a) ∧ w.cell? ⟨p, 2, none⟩ = some (fl b) ∧ w.cell? ⟨p, 3, none⟩ = some (fl c) ∧ w.cell? ⟨p, 4, none⟩ = some (fl d) ∧ ∀ j, w.frozen? ⟨p, j, none⟩ = false

set_option maxRecDepth 100000 in
theorem corners_empty (a b c d : Nat) (w : World) : Calls Try.prog 36 #[.agg #[.bool false, fl a, fl b, fl c, fl d]] w fun ex w' => ex = .returned (.slice none 0 0) ∧ Below w.heap.size w w' := by
  go_enter Try.func36, Try.ntmps36
  go_wp2_with fail
  go_ret
  exact ⟨rfl, by (repeat first | exact Below.refl _ _ | refine Below.drew ?_ | refine Below.setCell ?_ (by simp) _ | refine Below.alloc ?_ (by simp <;> omega) _)⟩

set_option maxRecDepth 100000 in
theorem corners_full (a b c d : Nat) (w : World) : Calls Try.prog 36 #[.agg #[.bool true, fl a, fl b, fl c, fl d]] w fun ex w' => ∃ g, ex = .returned (.slice (some ⟨g, 0, none⟩) 2 2) ∧ g < w'.heap.size ∧ w'.cell? ⟨g, 0, none⟩ = some (fl a) ∧ w'.cell? ⟨g, 1, none⟩ = some (fl b) ∧ w'.cell? ⟨g, 2, none⟩ = some (fl c) ∧ w'.cell? ⟨g, 3, none⟩ = some (fl d) ∧ Below w.heap.size w w' := by
  go_enter Try.func36, Try.ntmps36
  go_wp2_with fail
  go_ret
  exact ⟨w.heap.size + 1, rfl, by simp, by go_simp, by go_simp, by go_simp, by go_simp, by (repeat first | exact Below.refl _ _ | refine Below.drew ?_ | refine Below.setCell ?_ (by simp) _ | refine Below.alloc ?_ (by simp <;> omega) _)⟩

set_option maxRecDepth 100000 in
theorem of_nil (w : World) : Calls Try.prog 35 #[.slice none 0 0] w fun ex w' => ex = .returned (pv none) ∧ Below w.heap.size w w' := by
  unfold pv
  go_enter Try.func35, Try.ntmps35
  go_wp2_with fail
  go_loopw [8] (fun i wr => i = .int .i64 0 ∧ PC wr (w.heap.size + 1) false 0 0 0 0 ∧ PC wr w.heap.size false 0 0 0 0 ∧ Below w.heap.size w wr) (fun i _ => 2 - (intOf i).toNat)
  case atStart => exact ⟨rfl, ⟨by go_simp, by go_simp, by go_simp, by go_simp, by go_simp, fun j => by go_simp⟩, ⟨by go_simp, by go_simp, by go_simp, by go_simp, by go_simp, fun j => by go_simp⟩, (((Below.refl _ _).alloc (Nat.le_refl _) _).alloc (by simp) _)⟩
  case round =>
    obtain ⟨rfl, ⟨p0, p1, p2, p3, p4, pf⟩, ⟨r0, r1, r2, r3, r4, rf⟩, hb⟩ := hrel
    go_wp2_with fail
    refine bodyPost_ret (v := .agg #[.bool false, fl 0, fl 0, fl 0, fl 0]) (results_cell1 rfl _ rfl (by go_simp)) rfl ⟨rfl, ?_⟩
    repeat with_reducible first | exact hb | refine Below.setCell ?_ (by simp <;> omega) _

set_option maxRecDepth 100000 in
set_option maxHeartbeats 8000000 in
theorem of_two (g x1 y1 x2 y2 : Nat) (w : World) (hg : g < w.heap.size) (c0 : w.cell? ⟨g, 0, none⟩ = some (fl x1)) (c1 : w.cell? ⟨g, 1, none⟩ = some (fl y1)) (c2 : w.cell? ⟨g, 2, none⟩ = some (fl x2)) (c3 : w.cell? ⟨g, 3, none⟩ = some (fl y2)) :
    Calls Try.prog 35 #[.slice (some ⟨g, 0, none⟩) 2 2] w fun ex w' => ex = .returned (pv (some (madeB ⟨x1, y1, x2, y2⟩))) ∧ Below w.heap.size w w' := by
  have hm : Hid (pv (some (madeB ⟨x1, y1, x2, y2⟩)) = .agg #[.bool true, fl (gmin x1 x2), fl (gmin y1 y2), fl (gmax x1 x2), fl (gmax y1 y2)]) := rfl
  rw [hm.out]
  clear hm
  have g1 : Hid (gmin x1 x2 = if (FloatKind.f64.format.order x2 x1 == some .lt) = true then x2 else x1) := rfl
  have g2 : Hid (gmin y1 y2 = if (FloatKind.f64.format.order y2 y1 == some .lt) = true then y2 else y1) := rfl
  have g3 : Hid (gmax x1 x2 = if (FloatKind.f64.format.order x2 x1 == some .gt) = true then x2 else x1) := rfl
  have g4 : Hid (gmax y1 y2 = if (FloatKind.f64.format.order y2 y1 == some .gt) = true then y2 else y1) := rfl
  generalize gmin x1 x2 = m1 at *
  generalize gmin y1 y2 = m2 at *
  generalize gmax x1 x2 = m3 at *
  generalize gmax y1 y2 = m4 at *
  go_enter Try.func35, Try.ntmps35
  go_wp2_with fail
  go_loopw [8] (fun i wr => ((i = .int .i64 0 ∧ PC wr (w.heap.size + 1) false 0 0 0 0) ∨ (i = .int .i64 1 ∧ PC wr (w.heap.size + 1) true x1 y1 x1 y1) ∨ (i = .int .i64 2 ∧ PC wr (w.heap.size + 1) true m1 m2 m3 m4)) ∧ PC wr w.heap.size false 0 0 0 0 ∧ Below w.heap.size w wr ∧ w.heap.size + 2 ≤ wr.heap.size) (fun i _ => 2 - (intOf i).toNat)
  case atStart => exact ⟨Or.inl ⟨rfl, by go_simp, by go_simp, by go_simp, by go_simp, by go_simp, fun j => by go_simp⟩, ⟨by go_simp, by go_simp, by go_simp, by go_simp, by go_simp, fun j => by go_simp⟩, (((Below.refl _ _).alloc (Nat.le_refl _) _).alloc (by simp) _), by simp⟩
  case round =>
    obtain ⟨hE, hR, hb, hz⟩ := hrel
    have c0 := (hb.cell (p := ⟨g, 0, none⟩) hg).trans c0
    have c1 := (hb.cell (p := ⟨g, 1, none⟩) hg).trans c1
    have c2 := (hb.cell (p := ⟨g, 2, none⟩) hg).trans c2
    have c3 := (hb.cell (p := ⟨g, 3, none⟩) hg).trans c3
    obtain ⟨r0, r1, r2, r3, r4, rf⟩ := hR
    have k7 := fun o => fcell ((Below.refl (w.heap.size + 2) wr).alloc hz o)
    have k8 := fun o => ffroz ((Below.refl (w.heap.size + 2) wr).alloc hz o)
    rcases hE with ⟨rfl, hE⟩ | ⟨rfl, hE⟩ | ⟨rfl, hE⟩
    · obtain ⟨p0, p1, p2, p3, p4, pf⟩ := hE
      go_wp2_with fail
      go_roundw
      case rel =>
        refine ⟨Or.inr (Or.inl ⟨rfl, ?_⟩), ?_, ?_, ?_⟩
        · exact ⟨by go_simp, by go_simp, by go_simp, by go_simp, by go_simp, fun j => by go_simp⟩
        · exact ⟨by go_simp, by go_simp, by go_simp, by go_simp, by go_simp, fun j => by go_simp⟩
        · have hq : Below w.heap.size w wr := hb
          repeat with_reducible first | exact hq | refine Below.setCell ?_ (by simp <;> omega) _ | exact Below.alloc hq hb.size _
        · simp
          omega
      case measure => simp [intOf]
    · obtain ⟨p0, p1, p2, p3, p4, pf⟩ := hE
      obtain ⟨b1, h1⟩ : ∃ b, (FloatKind.f64.format.order x2 x1 == some .lt) = b := ⟨_, rfl⟩
      obtain ⟨b2, h2⟩ : ∃ b, (FloatKind.f64.format.order y2 y1 == some .lt) = b := ⟨_, rfl⟩
      obtain ⟨b3, h3⟩ : ∃ b, (FloatKind.f64.format.order x2 x1 == some .gt) = b := ⟨_, rfl⟩
      obtain ⟨b4, h4⟩ : ∃ b, (FloatKind.f64.format.order y2 y1 == some .gt) = b := ⟨_, rfl⟩
      have e1 : Hid (m1 = if b1 = true then x2 else x1) := Lib.hid (by rw [g1.out, h1])
      have e2 : Hid (m2 = if b2 = true then y2 else y1) := Lib.hid (by rw [g2.out, h2])
      have e3 : Hid (m3 = if b3 = true then x2 else x1) := Lib.hid (by rw [g3.out, h3])
      have e4 : Hid (m4 = if b4 = true then y2 else y1) := Lib.hid (by rw [g4.out, h4])
      clear g1 g2 g3 g4
      cases b1 <;> cases b2 <;> cases b3 <;> cases b4
      all_goals
        go_wp2_with fail
        go_roundw
        case rel =>
          refine ⟨Or.inr (Or.inr ⟨rfl, ?_⟩), ?_, ?_, ?_⟩
          · rw [e1.out, e2.out, e3.out, e4.out]
            exact ⟨by go_simp, by go_simp, by go_simp, by go_simp, by go_simp, fun j => by go_simp⟩
          · exact ⟨by go_simp, by go_simp, by go_simp, by go_simp, by go_simp, fun j => by go_simp⟩
          · have hq : Below w.heap.size w wr := hb
            repeat with_reducible first | exact hq | refine Below.setCell ?_ (by simp <;> omega) _ | exact Below.alloc hq hb.size _
          · simp
            omega
        case measure => simp [intOf]
    · obtain ⟨p0, p1, p2, p3, p4, pf⟩ := hE
      go_wp2_with fail
      refine bodyPost_ret (v := .agg #[.bool true, fl m1, fl m2, fl m3, fl m4]) (results_cell1 rfl _ rfl (by go_simp)) rfl ⟨rfl, ?_⟩
      repeat with_reducible first | exact hb | refine Below.setCell ?_ (by simp <;> omega) _
end Go.Proofs.Ytmgomieffmbmiaa.Ev
