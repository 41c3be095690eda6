/-
  The walk of 'FnSeqLess': sequences are ordered by X, then Y, of the first places that differ; if none differ, the longer one is less.
-/
import Derived.Test.YtmdllkjlbalbpaaPlaceLess
import Derived.Test.YtmdllkjlbalbpaaAll
import Derived.Test.YtmdllkjlbalbpaaFits
import Derived.OpenShut
import Derived.ChangeSlices
namespace Go.Proofs.Ytmdllkjlbalbpaa.FnSeqLess
open Go.ChangeShapes Go.WideShapes Go.ChangeAt Go.RowKit Go.Sort
open Wd Pl Ln Sq Gt Sg Wt Same Ls Al
attribute [local irreducible] wpQuiet
attribute [local go_sem ↓] Go.wp_at_zero Go.wp_at_succ

theorem sless_as {A A' : Option Addr} {n c r n' c' r' : Nat} {nums nums' : List Nat} (hN : n / wd r ≤ 100000) {w : World} (h : Pls w A (n / wd r) (pX r nums) (pY r nums)) (h' : Pls w A' (n' / wd r') (pX r' nums') (pY r' nums')) :
    Calls Try.prog 34 #[.slice A (n / wd r : Nat) c, .slice A' (n' / wd r' : Nat) c'] w fun ex w' => ex = .returned (.bool (lessOf r n nums r' n' nums')) ∧ Below w.heap.size w w' :=
  sless_any A A' (n / wd r) c (n' / wd r') c' (pX r nums) (pY r nums) (pX r' nums') (pY r' nums') hN w h h'

set_option maxRecDepth 100000 in
set_option maxHeartbeats 3000000 in
theorem core (cs : List Value) (g : G) (cs' : List Value) (g' : G) (w : World) (h : IsG w w.heap.size cs g) (h' : IsG w w.heap.size cs' g') :
    Calls Try.prog 10 #[.agg cs.toArray, .agg cs'.toArray] w fun e w' => e = .returned (.bool true) ∧ Below w.heap.size w w' := by
  obtain ⟨k, d, A, B, n, c, m, e, nums, kids, rfl, rfl⟩ := h.inv
  obtain ⟨k', d', A', B', n', c', m', e', nums', kids', rfl, rfl⟩ := h'.inv
  obtain ⟨r, hr⟩ : ∃ r : Nat, d % 4 = r := ⟨(d % 4).toNat, by omega⟩
  obtain ⟨r', hr'⟩ : ∃ r : Nat, d' % 4 = r := ⟨(d' % 4).toNat, by omega⟩
  have hL := Lib.hid (fun (W : World) h => gLine_any k d r hr A B n c m e nums kids W h)
  have hL' := Lib.hid (fun (W : World) h => gLine_any k' d' r' hr' A' B' n' c' m' e' nums' kids' W h)
  have hF := Lib.hid (fun w => fits_any k d A B n c m e w)
  have hF' := Lib.hid (fun w => fits_any k' d' A' B' n' c' m' e' w)
  have hG := Lib.hid (all_num h)
  have hG' := Lib.hid (all_num h')
  have h2 := Lib.hid h
  have h2' := Lib.hid h'
  obtain ⟨f, hf⟩ : ∃ f, (decide (n ≤ 2147483647) && decide (m ≤ 2147483647)) = f := ⟨_, rfl⟩
  obtain ⟨f', hf'⟩ : ∃ f, (decide (n' ≤ 2147483647) && decide (m' ≤ 2147483647)) = f := ⟨_, rfl⟩
  obtain ⟨l, hl⟩ : ∃ l, isLine (.mk k d nums kids) = l := ⟨_, rfl⟩
  obtain ⟨l', hl'⟩ : ∃ l, isLine (.mk k' d' nums' kids') = l := ⟨_, rfl⟩
  obtain ⟨q, hq⟩ : ∃ q, allG num (.mk k d nums kids) = q := ⟨_, rfl⟩
  obtain ⟨q', hq'⟩ : ∃ q, allG num (.mk k' d' nums' kids') = q := ⟨_, rfl⟩
  rw [hf] at hF
  rw [hf'] at hF'
  rw [hl] at hL
  rw [hl'] at hL'
  rw [hq] at hG
  rw [hq'] at hG'
  clear hf hf' hq hq' h h'
  cases f
  · clear hL hL' hG hG' hl hl'
    go_enter Try.func10, Try.ntmps10
    go_wp2_with (first | (go_at_call 27; (with_reducible refine (hF.out _).mono ?_); rintro e w1 ⟨rfl, hb1⟩; have hS1 := heldOf hb1; have hw1 : Below w.heap.size w w1 := ((((Below.refl _ _).alloc (Nat.le_refl _) _).alloc (by simp) _)).trans (hb1.mono (by simp <;> omega))) | fail)
    go_ret
    exact ⟨rfl, hw1⟩
  cases f'
  · clear hL hL' hG hG' hl hl'
    go_enter Try.func10, Try.ntmps10
    go_wp2_with (first | (go_at_call 27; (with_reducible refine (hF.out _).mono ?_); rintro e w1 ⟨rfl, hb1⟩; have hS1 := heldOf hb1; have hw1 : Below w.heap.size w w1 := ((((Below.refl _ _).alloc (Nat.le_refl _) _).alloc (by simp) _)).trans (hb1.mono (by simp <;> omega))) | (go_at_call 27; (with_reducible refine (hF'.out _).mono ?_); rintro e w2 ⟨rfl, hb2⟩; have hS2 := heldTrans hS1 hb2 (Nat.le_refl _); have hw2 := hw1.trans (hb2.mono hw1.size)) | fail)
    go_ret
    exact ⟨rfl, hw2⟩
  cases l
  · clear hG hG' hl hl'
    go_enter Try.func10, Try.ntmps10
    go_wp2_with (first | (go_at_call 27; (with_reducible refine (hF.out _).mono ?_); rintro e w1 ⟨rfl, hb1⟩; have hS1 := heldOf hb1; have hw1 : Below w.heap.size w w1 := ((((Below.refl _ _).alloc (Nat.le_refl _) _).alloc (by simp) _)).trans (hb1.mono (by simp <;> omega))) | (go_at_call 27; (with_reducible refine (hF'.out _).mono ?_); rintro e w2 ⟨rfl, hb2⟩; have hS2 := heldTrans hS1 hb2 (Nat.le_refl _); have hw2 := hw1.trans (hb2.mono hw1.size)) | (go_at_call 28; (with_reducible refine (hL.out _ (h2.out.keep hw2.size fun p hp => hw2.cell hp)).mono ?_); rintro e w3 ⟨v3, rfl, hown3, hb3⟩; have hS3 := heldTrans hS2 hb3 (Nat.le_refl _); have hw3 := hw2.trans (hb3.mono hw2.size)) | (go_at_call 28; (with_reducible refine (hL'.out _ (h2'.out.keep hw3.size fun p hp => hw3.cell hp)).mono ?_); rintro e w4 ⟨v4, rfl, hown4, hb4⟩; have hS4 := heldTrans hS3 hb4 (Nat.le_refl _); have hw4 := hw3.trans (hb4.mono hw3.size)) | fail)
    go_ret
    exact ⟨rfl, hw4⟩
  cases l'
  · clear hG hG' hl hl'
    go_enter Try.func10, Try.ntmps10
    go_wp2_with (first | (go_at_call 27; (with_reducible refine (hF.out _).mono ?_); rintro e w1 ⟨rfl, hb1⟩; have hS1 := heldOf hb1; have hw1 : Below w.heap.size w w1 := ((((Below.refl _ _).alloc (Nat.le_refl _) _).alloc (by simp) _)).trans (hb1.mono (by simp <;> omega))) | (go_at_call 27; (with_reducible refine (hF'.out _).mono ?_); rintro e w2 ⟨rfl, hb2⟩; have hS2 := heldTrans hS1 hb2 (Nat.le_refl _); have hw2 := hw1.trans (hb2.mono hw1.size)) | (go_at_call 28; (with_reducible refine (hL.out _ (h2.out.keep hw2.size fun p hp => hw2.cell hp)).mono ?_); rintro e w3 ⟨v3, rfl, hown3, hb3⟩; have hS3 := heldTrans hS2 hb3 (Nat.le_refl _); have hw3 := hw2.trans (hb3.mono hw2.size); have hq3 := Lib.hid (hown3 rfl); clear hown3; obtain ⟨A3, c3, rfl⟩ := own_slice hq3.out) | (go_at_call 28; (with_reducible refine (hL'.out _ (h2'.out.keep hw3.size fun p hp => hw3.cell hp)).mono ?_); rintro e w4 ⟨v4, rfl, hown4, hb4⟩; have hS4 := heldTrans hS3 hb4 (Nat.le_refl _); have hw4 := hw3.trans (hb4.mono hw3.size)) | fail)
    go_ret
    exact ⟨rfl, hw4⟩
  cases q
  · clear hl hl'
    go_enter Try.func10, Try.ntmps10
    go_wp2_with (first | (go_at_call 27; (with_reducible refine (hF.out _).mono ?_); rintro e w1 ⟨rfl, hb1⟩; have hS1 := heldOf hb1; have hw1 : Below w.heap.size w w1 := ((((Below.refl _ _).alloc (Nat.le_refl _) _).alloc (by simp) _)).trans (hb1.mono (by simp <;> omega))) | (go_at_call 27; (with_reducible refine (hF'.out _).mono ?_); rintro e w2 ⟨rfl, hb2⟩; have hS2 := heldTrans hS1 hb2 (Nat.le_refl _); have hw2 := hw1.trans (hb2.mono hw1.size)) | (go_at_call 28; (with_reducible refine (hL.out _ (h2.out.keep hw2.size fun p hp => hw2.cell hp)).mono ?_); rintro e w3 ⟨v3, rfl, hown3, hb3⟩; have hS3 := heldTrans hS2 hb3 (Nat.le_refl _); have hw3 := hw2.trans (hb3.mono hw2.size); have hq3 := Lib.hid (hown3 rfl); clear hown3; obtain ⟨A3, c3, rfl⟩ := own_slice hq3.out) | (go_at_call 28; (with_reducible refine (hL'.out _ (h2'.out.keep hw3.size fun p hp => hw3.cell hp)).mono ?_); rintro e w4 ⟨v4, rfl, hown4, hb4⟩; have hS4 := heldTrans hS3 hb4 (Nat.le_refl _); have hw4 := hw3.trans (hb4.mono hw3.size); have hq4 := Lib.hid (hown4 rfl); clear hown4; obtain ⟨A4, c4, rfl⟩ := own_slice hq4.out) | (go_at_call 31; (with_reducible refine (hG.out _ hw4.size fun p hp => hw4.cell hp).mono ?_); rintro e w5 ⟨rfl, hb5⟩; have hS5 := heldTrans hS4 hb5 (Nat.le_refl _); have hw5 := hw4.trans (hb5.mono hw4.size)) | fail)
    go_ret
    exact ⟨rfl, hw5⟩
  cases q'
  · clear hl hl'
    go_enter Try.func10, Try.ntmps10
    go_wp2_with (first | (go_at_call 27; (with_reducible refine (hF.out _).mono ?_); rintro e w1 ⟨rfl, hb1⟩; have hS1 := heldOf hb1; have hw1 : Below w.heap.size w w1 := ((((Below.refl _ _).alloc (Nat.le_refl _) _).alloc (by simp) _)).trans (hb1.mono (by simp <;> omega))) | (go_at_call 27; (with_reducible refine (hF'.out _).mono ?_); rintro e w2 ⟨rfl, hb2⟩; have hS2 := heldTrans hS1 hb2 (Nat.le_refl _); have hw2 := hw1.trans (hb2.mono hw1.size)) | (go_at_call 28; (with_reducible refine (hL.out _ (h2.out.keep hw2.size fun p hp => hw2.cell hp)).mono ?_); rintro e w3 ⟨v3, rfl, hown3, hb3⟩; have hS3 := heldTrans hS2 hb3 (Nat.le_refl _); have hw3 := hw2.trans (hb3.mono hw2.size); have hq3 := Lib.hid (hown3 rfl); clear hown3; obtain ⟨A3, c3, rfl⟩ := own_slice hq3.out) | (go_at_call 28; (with_reducible refine (hL'.out _ (h2'.out.keep hw3.size fun p hp => hw3.cell hp)).mono ?_); rintro e w4 ⟨v4, rfl, hown4, hb4⟩; have hS4 := heldTrans hS3 hb4 (Nat.le_refl _); have hw4 := hw3.trans (hb4.mono hw3.size); have hq4 := Lib.hid (hown4 rfl); clear hown4; obtain ⟨A4, c4, rfl⟩ := own_slice hq4.out) | (go_at_call 31; (with_reducible refine (hG.out _ hw4.size fun p hp => hw4.cell hp).mono ?_); rintro e w5 ⟨rfl, hb5⟩; have hS5 := heldTrans hS4 hb5 (Nat.le_refl _); have hw5 := hw4.trans (hb5.mono hw4.size)) | (go_at_call 31; (with_reducible refine (hG'.out _ hw5.size fun p hp => hw5.cell hp).mono ?_); rintro e w6 ⟨rfl, hb6⟩; have hS6 := heldTrans hS5 hb6 (Nat.le_refl _); have hw6 := hw5.trans (hb6.mono hw5.size)) | fail)
    go_ret
    exact ⟨rfl, hw6⟩
  have hk2 : k = 2 := by rw [isLine_mk] at hl; simp at hl; exact hl.2
  subst hk2
  obtain ⟨hn, hnc, hA, hAc⟩ : nums.length = n ∧ n ≤ c ∧ Row w w.heap.size A (nums.map fl) ∧ (A = none → c = 0) := by
    cases h2.out with
    | mk k d A B n c m e nums kids cells hk hd hn hnc hcm hA hfl hAc => exact ⟨hn, hnc, hA, hAc⟩
  have hn2 : n ≤ 2000 := by
    rw [isLine_mk] at hl
    simp at hl
    have := small_len hl
    omega
  clear hl
  have hk2' : k' = 2 := by rw [isLine_mk] at hl'; simp at hl'; exact hl'.2
  subst hk2'
  obtain ⟨hn', hnc', hA', hAc'⟩ : nums'.length = n' ∧ n' ≤ c' ∧ Row w w.heap.size A' (nums'.map fl) ∧ (A' = none → c' = 0) := by
    cases h2'.out with
    | mk k d A B n c m e nums kids cells hk hd hn hnc hcm hA hfl hAc => exact ⟨hn, hnc, hA, hAc⟩
  have hn2' : n' ≤ 2000 := by
    rw [isLine_mk] at hl'
    simp at hl'
    have := small_len hl'
    omega
  clear hl'
  have hle : n / wd r ≤ 100000 := Nat.le_trans (Nat.div_le_self _ _) (by omega)
  go_enter Try.func10, Try.ntmps10
  go_wp2_with (first | (go_at_call 27; (with_reducible refine (hF.out _).mono ?_); rintro e w1 ⟨rfl, hb1⟩; have hS1 := heldOf hb1; have hw1 : Below w.heap.size w w1 := ((((Below.refl _ _).alloc (Nat.le_refl _) _).alloc (by simp) _)).trans (hb1.mono (by simp <;> omega))) | (go_at_call 27; (with_reducible refine (hF'.out _).mono ?_); rintro e w2 ⟨rfl, hb2⟩; have hS2 := heldTrans hS1 hb2 (Nat.le_refl _); have hw2 := hw1.trans (hb2.mono hw1.size)) | (go_at_call 28; (with_reducible refine (hL.out _ (h2.out.keep hw2.size fun p hp => hw2.cell hp)).mono ?_); rintro e w3 ⟨v3, rfl, hown3, hb3⟩; have hS3 := heldTrans hS2 hb3 (Nat.le_refl _); have hw3 := hw2.trans (hb3.mono hw2.size); have hq3 := Lib.hid (hown3 rfl); clear hown3; obtain ⟨A3, c3, rfl⟩ := own_slice hq3.out) | (go_at_call 28; (with_reducible refine (hL'.out _ (h2'.out.keep hw3.size fun p hp => hw3.cell hp)).mono ?_); rintro e w4 ⟨v4, rfl, hown4, hb4⟩; have hS4 := heldTrans hS3 hb4 (Nat.le_refl _); have hw4 := hw3.trans (hb4.mono hw3.size); have hq4 := Lib.hid (hown4 rfl); clear hown4; obtain ⟨A4, c4, rfl⟩ := own_slice hq4.out) | (go_at_call 31; (with_reducible refine (hG.out _ hw4.size fun p hp => hw4.cell hp).mono ?_); rintro e w5 ⟨rfl, hb5⟩; have hS5 := heldTrans hS4 hb5 (Nat.le_refl _); have hw5 := hw4.trans (hb5.mono hw4.size)) | (go_at_call 31; (with_reducible refine (hG'.out _ hw5.size fun p hp => hw5.cell hp).mono ?_); rintro e w6 ⟨rfl, hb6⟩; have hS6 := heldTrans hS5 hb6 (Nat.le_refl _); have hw6 := hw5.trans (hb6.mono hw5.size)) | (go_at_call 33; (with_reducible refine (seqless_any d r hr A B n c m e nums hn hnc (by omega) hAc d' r' hr' A' B' n' c' m' e' nums' hn' hnc' (by omega) hAc' _ (hA.keep hw6.size fun p hp => hw6.cell hp) (hA'.keep hw6.size fun p hp => hw6.cell hp)).mono ?_); rintro e w7 ⟨rfl, hb7⟩; have hS7 := heldTrans hS6 hb7 (Nat.le_refl _); have hw7 := hw6.trans (hb7.mono hw6.size)) | (go_at_call 34; (with_reducible refine (sless_as hle (pls_of (own_keep hq3.out (((hb4.trans (hb5.mono hb4.size)).trans (hb6.mono (Nat.le_trans hb4.size hb5.size))).trans (hb7.mono (Nat.le_trans hb4.size (Nat.le_trans hb5.size hb6.size)))))) (pls_of (own_keep hq4.out ((hb5.trans (hb6.mono hb5.size)).trans (hb7.mono (Nat.le_trans hb5.size hb6.size)))))).mono ?_); rintro e w8 ⟨rfl, hb8⟩; have hw8 := hw7.trans (hb8.mono hw7.size)) | fail)
  go_ret
  exact ⟨ret_bool (by simp), hw8⟩

section
variable {H : Type} {enc : TypeId × Value → H} {W : World} {base : Nat}
set_option maxRecDepth 100000 in
theorem walk {v0 v1 : Value} {d0 d1 : DataW H} {p0 p1 : List MemPlace}
    (o0 : Value.okWide Try.prog W .any base 52 v0) (h0 : DataW.Trod enc Try.prog W 0 (fun _ => true) true 52 v0 d0 p0)
    (o1 : Value.okWide Try.prog W .any base 52 v1) (h1 : DataW.Trod enc Try.prog W 0 (fun _ => true) true 52 v1 d1 p1) :
    Calls Try.prog 10 #[v0, v1] W fun e w' => e = .returned (.bool true) ∧ Below W.heap.size W w' := by
  obtain ⟨cs, g, rfl, hg⟩ := open_geom_arg o0 h0
  obtain ⟨cs', g', rfl, hg'⟩ := open_geom_arg o1 h1
  exact core cs.toList g cs'.toList g' W hg hg'
end
end Go.Proofs.Ytmdllkjlbalbpaa.FnSeqLess
