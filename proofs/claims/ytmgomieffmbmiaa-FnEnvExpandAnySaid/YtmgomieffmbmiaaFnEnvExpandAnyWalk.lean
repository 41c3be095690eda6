/-
  The walk of 'FnEnvExpandAny': envelopes with finite ends grow together in any order to the same, and one by itself to itself.
-/
import Derived.Test.YtmgomieffmbmiaaEnvLaw
import Derived.Test.YtmgomieffmbmiaaOpen
import Derived.OpenShut
import Derived.ChangeSlices
import Derived.Lib.SmallJoins
import Derived.Deep.DeepCutAuto
namespace Go.Proofs.Ytmgomieffmbmiaa.FnEnvExpandAny
open Go.ChangeShapes Go.WideShapes Go.ChangeAt Go.RowKit Go.Sort
open Ev
attribute [local irreducible] wpQuiet
attribute [local go_sem ↓] Go.wp_at_zero Go.wp_at_succ

def pick (fa fb fc : Bool) (k : Nat) : Bool := match k with | 0 => fa | 1 => fb | _ => fc
def pickB (a b c : Bx) (k : Nat) : Bx := match k with | 0 => a | 1 => b | _ => c
theorem envs3 {w : World} {g : Nat} {fa fb fc : Bool} {a b c : Bx} (h0 : w.cell? ⟨g, 0, none⟩ = some (.bool fa)) (h1 : w.cell? ⟨g, 1, none⟩ = some (fl a.a)) (h2 : w.cell? ⟨g, 2, none⟩ = some (fl a.b)) (h3 : w.cell? ⟨g, 3, none⟩ = some (fl a.c)) (h4 : w.cell? ⟨g, 4, none⟩ = some (fl a.d)) (h5 : w.cell? ⟨g, 5, none⟩ = some (.bool fb)) (h6 : w.cell? ⟨g, 6, none⟩ = some (fl b.a)) (h7 : w.cell? ⟨g, 7, none⟩ = some (fl b.b)) (h8 : w.cell? ⟨g, 8, none⟩ = some (fl b.c)) (h9 : w.cell? ⟨g, 9, none⟩ = some (fl b.d)) (h10 : w.cell? ⟨g, 10, none⟩ = some (.bool fc)) (h11 : w.cell? ⟨g, 11, none⟩ = some (fl c.a)) (h12 : w.cell? ⟨g, 12, none⟩ = some (fl c.b)) (h13 : w.cell? ⟨g, 13, none⟩ = some (fl c.c)) (h14 : w.cell? ⟨g, 14, none⟩ = some (fl c.d)) : Envs w g 3 (pick fa fb fc) (pickB a b c) := by
  intro k hk
  have : k = 0 ∨ k = 1 ∨ k = 2 := by omega
  rcases this with rfl | rfl | rfl
  · exact ⟨h0, h1, h2, h3, h4⟩
  · exact ⟨h5, h6, h7, h8, h9⟩
  · exact ⟨h10, h11, h12, h13, h14⟩

theorem pv_agg (x : Option Bx) : ∃ a b c d e, pv x = .agg #[.bool a, fl b, fl c, fl d, fl e] := by cases x <;> exact ⟨_, _, _, _, _, rfl⟩
theorem expand_pi (x : Option Bx) (f : Bool) (b : Bx) (w : World) : Calls Try.prog 10 #[pv x, iv f b] w fun ex' w' => ex' = .returned (pv (ex (fl_ x) (bx x) f b)) ∧ Below w.heap.size w w' := by
  rw [pv_iv]; exact expand_any _ _ _ _ w
theorem expand_ip (f : Bool) (b : Bx) (x : Option Bx) (w : World) : Calls Try.prog 10 #[iv f b, pv x] w fun ex' w' => ex' = .returned (pv (ex f b (fl_ x) (bx x))) ∧ Below w.heap.size w w' := by
  rw [pv_iv]; exact expand_any _ _ _ _ w
theorem expand_ii (f : Bool) (b : Bx) (f' : Bool) (b' : Bx) (w : World) : Calls Try.prog 10 #[iv f b, iv f' b'] w fun ex' w' => ex' = .returned (pv (ex f b f' b')) ∧ Below w.heap.size w w' := expand_any _ _ _ _ w

set_option maxRecDepth 100000 in
set_option maxHeartbeats 3000000 in
theorem core (fa : Bool) (a : Bx) (fb : Bool) (b : Bx) (fc : Bool) (c : Bx) (w : World) :
    Calls Try.prog 3 #[iv fa a, iv fb b, iv fc c] w fun e w' => e = .returned (.bool true) ∧ Below w.heap.size w w' := by
  have hF := Lib.hid (fun g w => fits_all g 3 (by decide) (pick fa fb fc) (pickB a b c) w)
  have h1 := Lib.hid (expand_ii fa a fb b)
  have h2 := Lib.hid (expand_pi (ex fa a fb b) fc c)
  have h3 := Lib.hid (expand_ii fc c fb b)
  have h4 := Lib.hid (expand_ip fa a (ex fc c fb b))
  have h5 := Lib.hid (expand_ii fa a fa a)
  have h6 := Lib.hid (made_any fa a)
  have h7 := Lib.hid (equal_any (ex (fl_ (ex fa a fb b)) (bx (ex fa a fb b)) fc c) (ex fa a (fl_ (ex fc c fb b)) (bx (ex fc c fb b))))
  have h8 := Lib.hid (equal_any (ex fa a fa a) (made fa a))
  have hlaw : Hid ((∀ k, k < 3 → okE (pick fa fb fc k) (pickB a b c k)) → eqE (ex (fl_ (ex fa a fb b)) (bx (ex fa a fb b)) fc c) (ex fa a (fl_ (ex fc c fb b)) (bx (ex fc c fb b))) = true ∧ eqE (ex fa a fa a) (made fa a) = true) :=
    Lib.hid fun h => ⟨law_any fa a fb b fc c (fin4_of (h 0 (by decide))) (fin4_of (h 1 (by decide))) (fin4_of (h 2 (by decide))), law_same fa a (fin4_of (h 0 (by decide)))⟩
  generalize eqE (ex (fl_ (ex fa a fb b)) (bx (ex fa a fb b)) fc c) (ex fa a (fl_ (ex fc c fb b)) (bx (ex fc c fb b))) = q at *
  generalize eqE (ex fa a fa a) (made fa a) = q' at *
  obtain ⟨a1, b1, c1, d1, e1, r1⟩ := pv_agg (ex fa a fb b)
  obtain ⟨a2, b2, c2, d2, e2, r2⟩ := pv_agg (ex (fl_ (ex fa a fb b)) (bx (ex fa a fb b)) fc c)
  obtain ⟨a3, b3, c3, d3, e3, r3⟩ := pv_agg (ex fc c fb b)
  obtain ⟨a4, b4, c4, d4, e4, r4⟩ := pv_agg (ex fa a (fl_ (ex fc c fb b)) (bx (ex fc c fb b)))
  obtain ⟨a5, b5, c5, d5, e5, r5⟩ := pv_agg (ex fa a fa a)
  obtain ⟨a6, b6, c6, d6, e6, r6⟩ := pv_agg (made fa a)
  rw [r1] at h1 h2
  rw [r2] at h2 h7
  rw [r3] at h3 h4
  rw [r4] at h4 h7
  rw [r5] at h5 h8
  rw [r6] at h6 h8
  clear r1 r2 r3 r4 r5 r6
  unfold iv at h1 h2 h3 h4 h5 h6 ⊢
  go_enter Try.func3, Try.ntmps3
  go_wp2_with fail
  refine (hF.out _ _ (by simp) (envs3 (by go_simp) (by go_simp) (by go_simp) (by go_simp) (by go_simp) (by go_simp) (by go_simp) (by go_simp) (by go_simp) (by go_simp) (by go_simp) (by go_simp) (by go_simp) (by go_simp) (by go_simp))).mono ?_
  rintro e w1 ⟨⟨v, rfl, hv⟩, hb1⟩
  have k1 := fcell hb1
  have hw1 : Below w.heap.size w w1 := ((((((Below.refl _ _).alloc (Nat.le_refl _) _).alloc (by simp) _).alloc (by simp <;> omega) _).alloc (by simp <;> omega) _)).trans (hb1.mono (by simp <;> omega))
  clear hF
  cases v
  · go_wp2_with fail
    go_ret
    exact ⟨rfl, hw1⟩
  · obtain ⟨l1, l2⟩ := hlaw.out (hv rfl)
    subst l1 l2
    clear hlaw hv
    go_wp2_with fail
    have a_0 : w1.cell? ⟨w.heap.size, 0, none⟩ = some (.bool fa) := by go_simp
    have a_1 : w1.cell? ⟨w.heap.size, 1, none⟩ = some (fl a.a) := by go_simp
    have a_2 : w1.cell? ⟨w.heap.size, 2, none⟩ = some (fl a.b) := by go_simp
    have a_3 : w1.cell? ⟨w.heap.size, 3, none⟩ = some (fl a.c) := by go_simp
    have a_4 : w1.cell? ⟨w.heap.size, 4, none⟩ = some (fl a.d) := by go_simp
    have b_0 : w1.cell? ⟨w.heap.size + 1, 0, none⟩ = some (.bool fb) := by go_simp
    have b_1 : w1.cell? ⟨w.heap.size + 1, 1, none⟩ = some (fl b.a) := by go_simp
    have b_2 : w1.cell? ⟨w.heap.size + 1, 2, none⟩ = some (fl b.b) := by go_simp
    have b_3 : w1.cell? ⟨w.heap.size + 1, 3, none⟩ = some (fl b.c) := by go_simp
    have b_4 : w1.cell? ⟨w.heap.size + 1, 4, none⟩ = some (fl b.d) := by go_simp
    have c_0 : w1.cell? ⟨w.heap.size + 1 + 1, 0, none⟩ = some (.bool fc) := by go_simp
    have c_1 : w1.cell? ⟨w.heap.size + 1 + 1, 1, none⟩ = some (fl c.a) := by go_simp
    have c_2 : w1.cell? ⟨w.heap.size + 1 + 1, 2, none⟩ = some (fl c.b) := by go_simp
    have c_3 : w1.cell? ⟨w.heap.size + 1 + 1, 3, none⟩ = some (fl c.c) := by go_simp
    have c_4 : w1.cell? ⟨w.heap.size + 1 + 1, 4, none⟩ = some (fl c.d) := by go_simp
    have hzB : w.heap.size + 3 ≤ w1.heap.size := by
      have z := hb1.size
      simp at z
      omega
    have hS1 : Held (w.heap.size + 3) w1 w1 := heldOf (Below.refl _ _)
    clear k1 hb1
    go_cut [7] (fun s wx => ∃ p, s = .pointer (some ⟨p, 0, none⟩) ∧ Held (w.heap.size + 3) w1 wx ∧ p < wx.heap.size ∧ w.heap.size + 3 ≤ p ∧ wx.cell? ⟨p, 0, none⟩ = some (.bool a2) ∧ wx.cell? ⟨p, 1, none⟩ = some (fl b2) ∧ wx.cell? ⟨p, 2, none⟩ = some (fl c2) ∧ wx.cell? ⟨p, 3, none⟩ = some (fl d2) ∧ wx.cell? ⟨p, 4, none⟩ = some (fl e2))
    case first =>
      go_region_held3 (fun w' => Below (w.heap.size + 3) w1 w' ∧ ∀ b o, b < w.heap.size + 3 → w'.cell? ⟨b, o, none⟩ = w1.cell? ⟨b, o, none⟩) (with_reducible (repeat first | assumption | refine heldDrew ?_ | refine heldAlloc hzB ?_ | refine heldSet ?_ (by simp <;> omega))) (first | (go_at_call 10; (with_reducible refine (h1.out _).mono ?_); rintro e u2 ⟨rfl, hb_u2⟩; have hS_u2 := heldTrans (B := w.heap.size + 3) (by with_reducible assumption) hb_u2 hzB; have hz_u2 := Nat.le_trans hzB hS_u2.1.size; (try (refine old_k hb_u2 (w1.heap.size) ?_ ?_; (focus first | omega | (simp; done) | (simp; omega)); intro _ _ _ _ _ _ _ _))) | (go_at_call 10; (with_reducible refine (h2.out _).mono ?_); rintro e u3 ⟨rfl, hb_u3⟩; have hS_u3 := heldTrans (B := w.heap.size + 3) (by with_reducible assumption) hb_u3 hzB; have hz_u3 := Nat.le_trans hzB hS_u3.1.size; (try (refine old_k hb_u3 (w1.heap.size) ?_ ?_; (focus first | omega | (simp; done) | (simp; omega)); intro _ _ _ _ _ _ _ _)); (try (refine old_k hb_u3 (u2.heap.size) ?_ ?_; (focus first | omega | (simp; done) | (simp; omega)); intro _ _ _ _ _ _ _ _))))
      all_goals (go_wp2_with fail)
      all_goals go_meet
      all_goals (refine ⟨_, rfl, (by with_reducible assumption), ?_, ?_, ?_, ?_, ?_, ?_, ?_⟩ <;> first | (go_simp; done) | (simp <;> omega))
    case rest =>
      obtain ⟨p, rfl, hS2, hp, hpB, p0, p1, p2, p3, p4⟩ := hcut
      generalize wc = wA at *
      have l0 : w.heap.size < wA.heap.size := by omega
      have l1 : w.heap.size + 1 < wA.heap.size := by omega
      have l2 : w.heap.size + 1 + 1 < wA.heap.size := by omega
      have hSA : Held wA.heap.size wA wA := heldOf (Below.refl _ _)
      have a_0 : wA.cell? ⟨w.heap.size, 0, none⟩ = _ := (hS2.2 _ _ (by omega)).trans a_0
      have a_1 : wA.cell? ⟨w.heap.size, 1, none⟩ = _ := (hS2.2 _ _ (by omega)).trans a_1
      have a_2 : wA.cell? ⟨w.heap.size, 2, none⟩ = _ := (hS2.2 _ _ (by omega)).trans a_2
      have a_3 : wA.cell? ⟨w.heap.size, 3, none⟩ = _ := (hS2.2 _ _ (by omega)).trans a_3
      have a_4 : wA.cell? ⟨w.heap.size, 4, none⟩ = _ := (hS2.2 _ _ (by omega)).trans a_4
      have b_0 : wA.cell? ⟨w.heap.size + 1, 0, none⟩ = _ := (hS2.2 _ _ (by omega)).trans b_0
      have b_1 : wA.cell? ⟨w.heap.size + 1, 1, none⟩ = _ := (hS2.2 _ _ (by omega)).trans b_1
      have b_2 : wA.cell? ⟨w.heap.size + 1, 2, none⟩ = _ := (hS2.2 _ _ (by omega)).trans b_2
      have b_3 : wA.cell? ⟨w.heap.size + 1, 3, none⟩ = _ := (hS2.2 _ _ (by omega)).trans b_3
      have b_4 : wA.cell? ⟨w.heap.size + 1, 4, none⟩ = _ := (hS2.2 _ _ (by omega)).trans b_4
      have c_0 : wA.cell? ⟨w.heap.size + 1 + 1, 0, none⟩ = _ := (hS2.2 _ _ (by omega)).trans c_0
      have c_1 : wA.cell? ⟨w.heap.size + 1 + 1, 1, none⟩ = _ := (hS2.2 _ _ (by omega)).trans c_1
      have c_2 : wA.cell? ⟨w.heap.size + 1 + 1, 2, none⟩ = _ := (hS2.2 _ _ (by omega)).trans c_2
      have c_3 : wA.cell? ⟨w.heap.size + 1 + 1, 3, none⟩ = _ := (hS2.2 _ _ (by omega)).trans c_3
      have c_4 : wA.cell? ⟨w.heap.size + 1 + 1, 4, none⟩ = _ := (hS2.2 _ _ (by omega)).trans c_4
      have hwA : Below w.heap.size w wA := hw1.trans (hS2.1.mono (by omega))
      clear hS2 hS1
      go_wp2_with fail
      go_cut [8] (fun s wx => ∃ p, s = .pointer (some ⟨p, 0, none⟩) ∧ Held wA.heap.size wA wx ∧ p < wx.heap.size ∧ wA.heap.size ≤ p ∧ wx.cell? ⟨p, 0, none⟩ = some (.bool a4) ∧ wx.cell? ⟨p, 1, none⟩ = some (fl b4) ∧ wx.cell? ⟨p, 2, none⟩ = some (fl c4) ∧ wx.cell? ⟨p, 3, none⟩ = some (fl d4) ∧ wx.cell? ⟨p, 4, none⟩ = some (fl e4))
      case first =>
        go_region_held3 (fun w' => Below wA.heap.size wA w' ∧ ∀ b o, b < wA.heap.size → w'.cell? ⟨b, o, none⟩ = wA.cell? ⟨b, o, none⟩) (with_reducible (repeat first | assumption | refine heldDrew ?_ | refine heldAlloc (Nat.le_refl _) ?_ | refine heldSet ?_ (by simp <;> omega))) (first | (go_at_call 10; (with_reducible refine (h3.out _).mono ?_); rintro e u2 ⟨rfl, hb_u2⟩; have hS_u2 := heldTrans (B := wA.heap.size) (by with_reducible assumption) hb_u2 (Nat.le_refl _); have hz_u2 := hS_u2.1.size; (try (refine old_k hb_u2 (wA.heap.size) ?_ ?_; (focus first | omega | (simp; done) | (simp; omega)); intro _ _ _ _ _ _ _ _))) | (go_at_call 10; (with_reducible refine (h4.out _).mono ?_); rintro e u3 ⟨rfl, hb_u3⟩; have hS_u3 := heldTrans (B := wA.heap.size) (by with_reducible assumption) hb_u3 (Nat.le_refl _); have hz_u3 := hS_u3.1.size; (try (refine old_k hb_u3 (wA.heap.size) ?_ ?_; (focus first | omega | (simp; done) | (simp; omega)); intro _ _ _ _ _ _ _ _)); (try (refine old_k hb_u3 (u2.heap.size) ?_ ?_; (focus first | omega | (simp; done) | (simp; omega)); intro _ _ _ _ _ _ _ _))))
        all_goals (go_wp2_with fail)
        all_goals go_meet
        all_goals (refine ⟨_, rfl, (by with_reducible assumption), ?_, ?_, ?_, ?_, ?_, ?_, ?_⟩ <;> first | (go_simp; done) | (simp <;> omega))
      case rest =>
        obtain ⟨q, rfl, hS3, hq, hqB, q0, q1, q2, q3, q4⟩ := hcut
        generalize wc = wB at *
        have hSB : Held wB.heap.size wB wB := heldOf (Below.refl _ _)
        have a_0 : wB.cell? ⟨w.heap.size, 0, none⟩ = _ := (hS3.2 _ _ (by omega)).trans a_0
        have a_1 : wB.cell? ⟨w.heap.size, 1, none⟩ = _ := (hS3.2 _ _ (by omega)).trans a_1
        have a_2 : wB.cell? ⟨w.heap.size, 2, none⟩ = _ := (hS3.2 _ _ (by omega)).trans a_2
        have a_3 : wB.cell? ⟨w.heap.size, 3, none⟩ = _ := (hS3.2 _ _ (by omega)).trans a_3
        have a_4 : wB.cell? ⟨w.heap.size, 4, none⟩ = _ := (hS3.2 _ _ (by omega)).trans a_4
        have b_0 : wB.cell? ⟨w.heap.size + 1, 0, none⟩ = _ := (hS3.2 _ _ (by omega)).trans b_0
        have b_1 : wB.cell? ⟨w.heap.size + 1, 1, none⟩ = _ := (hS3.2 _ _ (by omega)).trans b_1
        have b_2 : wB.cell? ⟨w.heap.size + 1, 2, none⟩ = _ := (hS3.2 _ _ (by omega)).trans b_2
        have b_3 : wB.cell? ⟨w.heap.size + 1, 3, none⟩ = _ := (hS3.2 _ _ (by omega)).trans b_3
        have b_4 : wB.cell? ⟨w.heap.size + 1, 4, none⟩ = _ := (hS3.2 _ _ (by omega)).trans b_4
        have c_0 : wB.cell? ⟨w.heap.size + 1 + 1, 0, none⟩ = _ := (hS3.2 _ _ (by omega)).trans c_0
        have c_1 : wB.cell? ⟨w.heap.size + 1 + 1, 1, none⟩ = _ := (hS3.2 _ _ (by omega)).trans c_1
        have c_2 : wB.cell? ⟨w.heap.size + 1 + 1, 2, none⟩ = _ := (hS3.2 _ _ (by omega)).trans c_2
        have c_3 : wB.cell? ⟨w.heap.size + 1 + 1, 3, none⟩ = _ := (hS3.2 _ _ (by omega)).trans c_3
        have c_4 : wB.cell? ⟨w.heap.size + 1 + 1, 4, none⟩ = _ := (hS3.2 _ _ (by omega)).trans c_4
        have p0 : wB.cell? ⟨p, 0, none⟩ = _ := (hS3.2 _ _ hp).trans p0
        have p1 : wB.cell? ⟨p, 1, none⟩ = _ := (hS3.2 _ _ hp).trans p1
        have p2 : wB.cell? ⟨p, 2, none⟩ = _ := (hS3.2 _ _ hp).trans p2
        have p3 : wB.cell? ⟨p, 3, none⟩ = _ := (hS3.2 _ _ hp).trans p3
        have p4 : wB.cell? ⟨p, 4, none⟩ = _ := (hS3.2 _ _ hp).trans p4
        have l0 : w.heap.size < wB.heap.size := by omega
        have l3 : p < wB.heap.size := by omega
        have hwB : Below w.heap.size w wB := hwA.trans (hS3.1.mono (by omega))
        clear hS3
        go_wp2_with fail
        go_region_held3 (fun w' => Below wB.heap.size wB w' ∧ ∀ b o, b < wB.heap.size → w'.cell? ⟨b, o, none⟩ = wB.cell? ⟨b, o, none⟩) (with_reducible (repeat first | assumption | refine heldDrew ?_ | refine heldAlloc (Nat.le_refl _) ?_ | refine heldSet ?_ (by simp <;> omega))) (first | (go_at_call 11; (with_reducible refine (h7.out _).mono ?_); rintro e u2 ⟨rfl, hb_u2⟩; have hS_u2 := heldTrans (B := wB.heap.size) (by with_reducible assumption) hb_u2 (Nat.le_refl _); have hz_u2 := hS_u2.1.size) | (go_at_call 10; (with_reducible refine (h5.out _).mono ?_); rintro e u3 ⟨rfl, hb_u3⟩; have hS_u3 := heldTrans (B := wB.heap.size) (by with_reducible assumption) hb_u3 (Nat.le_refl _); have hz_u3 := hS_u3.1.size) | (go_at_call 12; (with_reducible refine (h6.out _).mono ?_); rintro e u4 ⟨rfl, hb_u4⟩; have hS_u4 := heldTrans (B := wB.heap.size) (by with_reducible assumption) hb_u4 (Nat.le_refl _); have hz_u4 := hS_u4.1.size) | (go_at_call 11; (with_reducible refine (h8.out _).mono ?_); rintro e u5 ⟨rfl, hb_u5⟩; have hS_u5 := heldTrans (B := wB.heap.size) (by with_reducible assumption) hb_u5 (Nat.le_refl _); have hz_u5 := hS_u5.1.size))
        go_wp2_with fail
        go_ret
        exact ⟨rfl, hwB.trans ((heldBelow (B := wB.heap.size) (by with_reducible assumption)).mono hwB.size)⟩

section
variable {H : Type} {enc : TypeId × Value → H} {W : World} {base : Nat}
set_option maxRecDepth 100000 in
theorem open_env {v : Value} {d : DataW H} {p : List MemPlace} (hv : Value.okWide Try.prog W .any base 26 v) (h : DataW.Trod enc Try.prog W 0 (fun _ => true) true 26 v d p) :
    ∃ f x, v = iv f x := by
  obtain ⟨cs, rfl, hsz⟩ := okWide_struct Try.underlying26 hv
  rw [show Try.prog.cellsOf 26 = 5 from by kernel_rfl] at hsz
  obtain ⟨fuel, hf⟩ := h
  obtain ⟨l, rfl⟩ : ∃ l : List Value, cs = l.toArray := ⟨cs.toList, by simp⟩
  match l, hsz with
  | [u0, u1, u2, u3, u4], _ =>
    obtain ⟨xs, n, hn, -, -, hxl, hg⟩ := DataW.trod_struct Try.underlying26 hf
    have g0 : DataW.trod enc Try.prog W 0 (fun _ => true) true n 4 (([u0, u1, u2, u3, u4].drop 0).take (Try.prog.cellsOf 4)) = xs[0]? := hg 0 _ rfl
    have g1 : DataW.trod enc Try.prog W 0 (fun _ => true) true n 24 (([u0, u1, u2, u3, u4].drop 1).take (Try.prog.cellsOf 24)) = xs[1]? := hg 1 _ rfl
    rw [show Try.prog.cellsOf 4 = 1 from by kernel_rfl, List.getElem?_eq_getElem (by rw [hxl]; decide)] at g0
    rw [show Try.prog.cellsOf 24 = 4 from by kernel_rfl, List.getElem?_eq_getElem (by rw [hxl]; decide)] at g1
    obtain ⟨f, e0, -⟩ := DataW.trod_bool Try.underlying4 g0
    obtain ⟨ys, m, hm, -, -, hyl, hy⟩ := DataW.trod_struct Try.underlying24 g1
    have y0 : DataW.trod enc Try.prog W 0 (fun _ => true) true m 22 (([u1, u2, u3, u4].drop 0).take (Try.prog.cellsOf 22)) = ys[0]? := hy 0 _ rfl
    have y1 : DataW.trod enc Try.prog W 0 (fun _ => true) true m 22 (([u1, u2, u3, u4].drop 1).take (Try.prog.cellsOf 22)) = ys[1]? := hy 1 _ rfl
    have y2 : DataW.trod enc Try.prog W 0 (fun _ => true) true m 22 (([u1, u2, u3, u4].drop 2).take (Try.prog.cellsOf 22)) = ys[2]? := hy 2 _ rfl
    have y3 : DataW.trod enc Try.prog W 0 (fun _ => true) true m 22 (([u1, u2, u3, u4].drop 3).take (Try.prog.cellsOf 22)) = ys[3]? := hy 3 _ rfl
    rw [show Try.prog.cellsOf 22 = 1 from by kernel_rfl, List.getElem?_eq_getElem (by rw [hyl]; decide)] at y0 y1 y2 y3
    obtain ⟨a, e1, -, -⟩ := trod_float Try.underlying22 y0
    obtain ⟨b, e2, -, -⟩ := trod_float Try.underlying22 y1
    obtain ⟨c, e3, -, -⟩ := trod_float Try.underlying22 y2
    obtain ⟨d', e4, -, -⟩ := trod_float Try.underlying22 y3
    simp at e0 e1 e2 e3 e4
    subst e0 e1 e2 e3 e4
    exact ⟨f, ⟨a, b, c, d'⟩, rfl⟩

set_option maxRecDepth 100000 in
theorem walk {v0 v1 v2 : Value} {d0 d1 d2 : DataW H} {p0 p1 p2 : List MemPlace}
    (o0 : Value.okWide Try.prog W .any base 26 v0) (h0 : DataW.Trod enc Try.prog W 0 (fun _ => true) true 26 v0 d0 p0)
    (o1 : Value.okWide Try.prog W .any base 26 v1) (h1 : DataW.Trod enc Try.prog W 0 (fun _ => true) true 26 v1 d1 p1)
    (o2 : Value.okWide Try.prog W .any base 26 v2) (h2 : DataW.Trod enc Try.prog W 0 (fun _ => true) true 26 v2 d2 p2) :
    Calls Try.prog 3 #[v0, v1, v2] W fun e w' => e = .returned (.bool true) ∧ Below W.heap.size W w' := by
  obtain ⟨fa, a, rfl⟩ := open_env o0 h0
  obtain ⟨fb, b, rfl⟩ := open_env o1 h1
  obtain ⟨fc, c, rfl⟩ := open_env o2 h2
  exact core fa a fb b fc c W
end
end Go.Proofs.Ytmgomieffmbmiaa.FnEnvExpandAny
