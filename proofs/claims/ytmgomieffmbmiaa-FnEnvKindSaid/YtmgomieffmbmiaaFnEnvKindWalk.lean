/-
  The walk of 'FnEnvKind': an envelope with finite ends is empty, one place, a level or upright line, or a rectangle: just one of these.
-/
import Derived.Test.YtmgomieffmbmiaaEnvKind
import Derived.Test.YtmgomieffmbmiaaOpen
import Derived.OpenShut
import Derived.ChangeSlices
import Derived.Lib.SmallJoins
namespace Go.Proofs.Ytmgomieffmbmiaa.FnEnvKind
open Go.ChangeShapes Go.WideShapes Go.ChangeAt Go.RowKit Go.Sort
open Ev Fl Fi
attribute [local irreducible] wpQuiet
attribute [local go_sem ↓] Go.wp_at_zero Go.wp_at_succ

theorem envs1 {w : World} {g : Nat} {f : Bool} {x : Bx} (h0 : w.cell? ⟨g, 0, none⟩ = some (.bool f)) (h1 : w.cell? ⟨g, 1, none⟩ = some (fl x.a)) (h2 : w.cell? ⟨g, 2, none⟩ = some (fl x.b)) (h3 : w.cell? ⟨g, 3, none⟩ = some (fl x.c)) (h4 : w.cell? ⟨g, 4, none⟩ = some (fl x.d)) : Envs w g 1 (fun _ => f) (fun _ => x) := by
  intro k hk
  have : k = 0 := by omega
  subst this
  exact ⟨h0, h1, h2, h3, h4⟩

theorem run_field_box (f : Bool) (a b c d : Nat) (w : World) : (Instr.field 26 (.agg #[.bool f, .float .f64 a, .float .f64 b, .float .f64 c, .float .f64 d]) 1).run Try.prog w = .ok (.agg #[.float .f64 a, .float .f64 b, .float .f64 c, .float .f64 d]) w := by
  have ht := Try.underlying26
  have c4 := Try.underlying24
  have hinfo : (Try.prog.info? 24).map (·.size) = some 4 := by kernel_rfl
  obtain ⟨i, hi, hs⟩ := Option.map_eq_some_iff.1 hinfo
  simp [Instr.field, run_underlying ht, asAgg, part, go_sem, sizeOf, typeInfo, hi, hs]
attribute [local go_sem ↓] run_field_box

theorem side {a b m M : Nat} (hm : Num m) (hM : Num M) (hg : Num a) (hG : Num b) (e1 : V m = V a) (e2 : V M = V b) (h : V a ≤ V b) : lt m M = !feq a b := by
  unfold lt feq
  rw [fin_lt hm hM, fin_eq hg hG, e1, e2]
  by_cases hc : V a = V b
  · simp [hc]
  · simp [hc]
    omega
theorem sides {x : Bx} (h : okE true x) : lt (gmin x.a x.c) (gmax x.a x.c) = !feq (fmin x.a x.c) (fmax x.a x.c) ∧ lt (gmin x.b x.d) (gmax x.b x.d) = !feq (fmin x.b x.d) (fmax x.b x.d) := by
  obtain ⟨xa, xb, xc, xd⟩ := fin4_of h rfl
  obtain ⟨n1, v1⟩ := fmin_num xa xc
  obtain ⟨n2, v2⟩ := fmin_num xb xd
  obtain ⟨n3, v3⟩ := fmax_num xa xc
  obtain ⟨n4, v4⟩ := fmax_num xb xd
  obtain ⟨m1, u1⟩ := gmin_num xa xc
  obtain ⟨m2, u2⟩ := gmin_num xb xd
  obtain ⟨m3, u3⟩ := gmax_num xa xc
  obtain ⟨m4, u4⟩ := gmax_num xb xd
  exact ⟨side m1 m3 n1 n3 (by omega) (by omega) (by omega), side m2 m4 n2 n4 (by omega) (by omega) (by omega)⟩

set_option maxRecDepth 100000 in
set_option maxHeartbeats 3000000 in
theorem core_empty (x : Bx) (w : World) : Calls Try.prog 4 #[iv false x] w fun e w' => e = .returned (.bool true) ∧ Below w.heap.size w w' := by
  have hF := Lib.hid (fun g w => fits_all g 1 (by decide) (fun _ => false) (fun _ => x) w)
  have hM := Lib.hid (made_empty x.a x.b x.c x.d)
  have hK := Lib.hid (kind_none x)
  have h0 : (FloatKind.f64.format.order 0 0 == some .lt) = false := by decide +kernel
  unfold iv at hK ⊢
  unfold pv at hM
  go_enter Try.func4, Try.ntmps4
  go_wp2_with fail
  refine (hF.out _ _ (by simp) (envs1 (by go_simp) (by go_simp) (by go_simp) (by go_simp) (by go_simp))).mono ?_
  rintro e w1 ⟨⟨v, rfl, hv⟩, hb1⟩
  have k1 := fcell hb1
  have hz1 : w.heap.size + 2 ≤ w1.heap.size := by
    have z := hb1.size
    simp at z
    omega
  have hw1 : Below w.heap.size w w1 := ((((Below.refl _ _).alloc (Nat.le_refl _) _).alloc (by simp) _)).trans (hb1.mono (by simp <;> omega))
  clear hF
  cases v
  · go_wp2_with fail
    go_ret
    exact ⟨rfl, hw1⟩
  · clear hv
    go_wp2_with (first | (go_at_call 12; (with_reducible refine (hM.out _).mono ?_); rintro e w2 ⟨rfl, hb2⟩; have k2 := fcell (hb2.mono hz1); have hw2 := hw1.trans (hb2.mono hw1.size); have hz2 : w.heap.size + 2 ≤ w2.heap.size := Nat.le_trans hz1 hb2.size; have k7 := fun o => fcell (al1 hz2 o)) | (go_at_call 13; (with_reducible refine (hK.out _).mono ?_); rintro e w3 ⟨rfl, hb3⟩; have hw3 : Below w.heap.size w w3 := ((hw2.alloc hw2.size _).drew).trans (hb3.mono (by simp; exact Nat.le_succ_of_le hw2.size))) | fail)
    go_region_held3 (fun w' => w'.cell? ⟨w2.heap.size, 0, none⟩ = some (fl 0) ∧ w'.cell? ⟨w2.heap.size, 1, none⟩ = some (fl 0) ∧ w'.cell? ⟨w2.heap.size, 2, none⟩ = some (fl 0) ∧ w'.cell? ⟨w2.heap.size, 3, none⟩ = some (fl 0)) (go_keep) (fail)
    go_wp2_with (first | (go_at_call 12; (with_reducible refine (hM.out _).mono ?_); rintro e w2 ⟨rfl, hb2⟩; have k2 := fcell (hb2.mono hz1); have hw2 := hw1.trans (hb2.mono hw1.size); have hz2 : w.heap.size + 2 ≤ w2.heap.size := Nat.le_trans hz1 hb2.size; have k7 := fun o => fcell (al1 hz2 o)) | (go_at_call 13; (with_reducible refine (hK.out _).mono ?_); rintro e w3 ⟨rfl, hb3⟩; have hw3 : Below w.heap.size w w3 := ((hw2.alloc hw2.size _).drew).trans (hb3.mono (by simp; exact Nat.le_succ_of_le hw2.size))) | fail)
    go_ret
    exact ⟨rfl, hw3⟩

set_option maxRecDepth 100000 in
set_option maxHeartbeats 3000000 in
theorem core_full (x : Bx) (w : World) : Calls Try.prog 4 #[iv true x] w fun e w' => e = .returned (.bool true) ∧ Below w.heap.size w w' := by
  have hF := Lib.hid (fun g w => fits_all g 1 (by decide) (fun _ => true) (fun _ => x) w)
  have hM := Lib.hid (made_full x.a x.b x.c x.d)
  have hK := Lib.hid (kind_some x)
  have hm : Hid (pv (some (madeB ⟨x.a, x.b, x.c, x.d⟩)) = .agg #[.bool true, fl (gmin x.a x.c), fl (gmin x.b x.d), fl (gmax x.a x.c), fl (gmax x.b x.d)]) := rfl
  rw [hm.out] at hM
  clear hm
  have hs := Lib.hid (sides (x := x))
  obtain ⟨p, hp⟩ : ∃ p, feq (fmin x.a x.c) (fmax x.a x.c) = p := ⟨_, rfl⟩
  obtain ⟨q, hq⟩ : ∃ q, feq (fmin x.b x.d) (fmax x.b x.d) = q := ⟨_, rfl⟩
  have hk : Hid (kind (envOf true x) = if p = true then (if q = true then 1 else 2) else (if q = true then 2 else 4)) := Lib.hid (by rw [← hp, ← hq]; rfl)
  rw [hk.out] at hK
  clear hk
  rw [hp, hq] at hs
  clear hp hq
  unfold iv at hK ⊢
  go_enter Try.func4, Try.ntmps4
  go_wp2_with fail
  refine (hF.out _ _ (by simp) (envs1 (by go_simp) (by go_simp) (by go_simp) (by go_simp) (by go_simp))).mono ?_
  rintro e w1 ⟨⟨v, rfl, hv⟩, hb1⟩
  have k1 := fcell hb1
  have hz1 : w.heap.size + 2 ≤ w1.heap.size := by
    have z := hb1.size
    simp at z
    omega
  have hw1 : Below w.heap.size w w1 := ((((Below.refl _ _).alloc (Nat.le_refl _) _).alloc (by simp) _)).trans (hb1.mono (by simp <;> omega))
  clear hF
  cases v
  · go_wp2_with fail
    go_ret
    exact ⟨rfl, hw1⟩
  · obtain ⟨s1, s2⟩ := hs.out (hv rfl 0 (by decide))
    clear hv hs
    have s1' : (FloatKind.f64.format.order (gmin x.a x.c) (gmax x.a x.c) == some .lt) = !p := s1
    have s2' : (FloatKind.f64.format.order (gmin x.b x.d) (gmax x.b x.d) == some .lt) = !q := s2
    clear s1 s2
    cases p <;> cases q
    all_goals
      simp only [Bool.not_true, Bool.not_false] at s1' s2'
      go_wp2_with (first | (go_at_call 12; (with_reducible refine (hM.out _).mono ?_); rintro e w2 ⟨rfl, hb2⟩; have k2 := fcell (hb2.mono hz1); have hw2 := hw1.trans (hb2.mono hw1.size); have hz2 : w.heap.size + 2 ≤ w2.heap.size := Nat.le_trans hz1 hb2.size; have k7 := fun o => fcell (al1 hz2 o)) | (go_at_call 13; (with_reducible refine (hK.out _).mono ?_); rintro e w3 ⟨rfl, hb3⟩; have hw3 : Below w.heap.size w w3 := ((hw2.alloc hw2.size _).drew).trans (hb3.mono (by simp; exact Nat.le_succ_of_le hw2.size))) | fail)
      go_region_held3 (fun w' => w'.cell? ⟨w2.heap.size, 0, none⟩ = some (fl (gmin x.a x.c)) ∧ w'.cell? ⟨w2.heap.size, 1, none⟩ = some (fl (gmin x.b x.d)) ∧ w'.cell? ⟨w2.heap.size, 2, none⟩ = some (fl (gmax x.a x.c)) ∧ w'.cell? ⟨w2.heap.size, 3, none⟩ = some (fl (gmax x.b x.d))) (go_keep) (fail)
      go_wp2_with (first | (go_at_call 12; (with_reducible refine (hM.out _).mono ?_); rintro e w2 ⟨rfl, hb2⟩; have k2 := fcell (hb2.mono hz1); have hw2 := hw1.trans (hb2.mono hw1.size); have hz2 : w.heap.size + 2 ≤ w2.heap.size := Nat.le_trans hz1 hb2.size; have k7 := fun o => fcell (al1 hz2 o)) | (go_at_call 13; (with_reducible refine (hK.out _).mono ?_); rintro e w3 ⟨rfl, hb3⟩; have hw3 : Below w.heap.size w w3 := ((hw2.alloc hw2.size _).drew).trans (hb3.mono (by simp; exact Nat.le_succ_of_le hw2.size))) | fail)
      go_ret
      exact ⟨rfl, hw3⟩

theorem core (f : Bool) (x : Bx) (w : World) : Calls Try.prog 4 #[iv f x] w fun e w' => e = .returned (.bool true) ∧ Below w.heap.size w w' := by
  cases f
  · exact core_empty x w
  · exact core_full x w

section
variable {H : Type} {enc : TypeId × Value → H} {W : World} {base : Nat}
set_option maxRecDepth 100000 in
theorem open_env {v : Value} {d : DataW H} {p : List MemPlace} (hv : Value.okWide Try.prog W .any base 26 v) (h : DataW.Trod enc Try.prog W 0 (fun _ => true) true 26 v d p) :
    ∃ f x, v = iv f x := by
  obtain ⟨cs, rfl, hsz⟩ := okWide_struct Try.underlying26 hv
  rw [show Try.prog.cellsOf 26 = 5 from by kernel_rfl] at hsz
  obtain ⟨fuel, hf⟩ := h
  obtain ⟨l, rfl⟩ : ∃ l : List Value, cs = l.toArray := ⟨cs.toList, by simp⟩
  match l, hsz with
  | [u0, u1, u2, u3, u4], _ =>
    obtain ⟨xs, n, hn, -, -, hxl, hg⟩ := DataW.trod_struct Try.underlying26 hf
    have g0 : DataW.trod enc Try.prog W 0 (fun _ => true) true n 4 (([u0, u1, u2, u3, u4].drop 0).take (Try.prog.cellsOf 4)) = xs[0]? := hg 0 _ rfl
    have g1 : DataW.trod enc Try.prog W 0 (fun _ => true) true n 24 (([u0, u1, u2, u3, u4].drop 1).take (Try.prog.cellsOf 24)) = xs[1]? := hg 1 _ rfl
    rw [show Try.prog.cellsOf 4 = 1 from by kernel_rfl, List.getElem?_eq_getElem (by rw [hxl]; decide)] at g0
    rw [show Try.prog.cellsOf 24 = 4 from by kernel_rfl, List.getElem?_eq_getElem (by rw [hxl]; decide)] at g1
    obtain ⟨f, e0, -⟩ := DataW.trod_bool Try.underlying4 g0
    obtain ⟨ys, m, hm, -, -, hyl, hy⟩ := DataW.trod_struct Try.underlying24 g1
    have y0 : DataW.trod enc Try.prog W 0 (fun _ => true) true m 22 (([u1, u2, u3, u4].drop 0).take (Try.prog.cellsOf 22)) = ys[0]? := hy 0 _ rfl
    have y1 : DataW.trod enc Try.prog W 0 (fun _ => true) true m 22 (([u1, u2, u3, u4].drop 1).take (Try.prog.cellsOf 22)) = ys[1]? := hy 1 _ rfl
    have y2 : DataW.trod enc Try.prog W 0 (fun _ => true) true m 22 (([u1, u2, u3, u4].drop 2).take (Try.prog.cellsOf 22)) = ys[2]? := hy 2 _ rfl
    have y3 : DataW.trod enc Try.prog W 0 (fun _ => true) true m 22 (([u1, u2, u3, u4].drop 3).take (Try.prog.cellsOf 22)) = ys[3]? := hy 3 _ rfl
    rw [show Try.prog.cellsOf 22 = 1 from by kernel_rfl, List.getElem?_eq_getElem (by rw [hyl]; decide)] at y0 y1 y2 y3
    obtain ⟨a, e1, -, -⟩ := trod_float Try.underlying22 y0
    obtain ⟨b, e2, -, -⟩ := trod_float Try.underlying22 y1
    obtain ⟨c, e3, -, -⟩ := trod_float Try.underlying22 y2
    obtain ⟨d', e4, -, -⟩ := trod_float Try.underlying22 y3
    simp at e0 e1 e2 e3 e4
    subst e0 e1 e2 e3 e4
    exact ⟨f, ⟨a, b, c, d'⟩, rfl⟩

set_option maxRecDepth 100000 in
theorem walk {v0 : Value} {d0 : DataW H} {p0 : List MemPlace}
    (o0 : Value.okWide Try.prog W .any base 26 v0) (h0 : DataW.Trod enc Try.prog W 0 (fun _ => true) true 26 v0 d0 p0) :
    Calls Try.prog 4 #[v0] W fun e w' => e = .returned (.bool true) ∧ Below W.heap.size W w' := by
  obtain ⟨f, x, rfl⟩ := open_env o0 h0
  exact core f x W
end
end Go.Proofs.Ytmgomieffmbmiaa.FnEnvKind
