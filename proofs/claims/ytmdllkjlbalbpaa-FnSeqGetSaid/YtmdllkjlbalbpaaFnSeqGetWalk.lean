/-
  The walk of 'FnSeqGet': a sequence gives each place with all its numbers, and panics out of range.
-/
import Derived.Test.YtmdllkjlbalbpaaSeqGet
import Derived.Test.YtmdllkjlbalbpaaFits
import Derived.OpenShut
import Derived.Test.YtmdllkjlbalbpaaBits
import Derived.ChangeSlices
namespace Go.Proofs.Ytmdllkjlbalbpaa.FnSeqGet
open Go.ChangeShapes Go.WideShapes Go.ChangeAt Go.RowKit Go.Sort
open Wd Pl Ln Sq Gt Sg Wt Same
attribute [local irreducible] wpQuiet
attribute [local go_sem ↓] Go.wp_at_zero Go.wp_at_succ

theorem placesCells_get (d : Nat) (nums : List Nat) : ∀ (n k j : Nat), k < n → j < 4 → (placesCells d nums n)[k * 4 + j]? = (placeCells d nums k)[j]? := by
  intro n
  induction n with
  | zero => intro k j h; omega
  | succ n ih =>
    intro k j hk hj
    have hl : ∀ n, (placesCells d nums n).length = n * 4 := by
      intro n
      induction n with
      | zero => rfl
      | succ n ih2 => rw [placesCells_succ, List.length_append, ih2]; simp [placeCells]; omega
    rw [placesCells_succ, List.getElem?_append]
    by_cases h : k < n
    · rw [if_pos (by rw [hl]; omega), ih k j h hj]
    · have : k = n := by omega
      subst this
      rw [if_neg (by rw [hl]; omega), hl]
      congr 1
      omega

/-- a place of an owned row of places -/
theorem own_place {w : World} {base : Nat} {d n : Nat} {v : Value} {nums : List Nat} {e : TypeId} (h : w.ownsRow base e 4 v n (placesCells d nums n)) (k : Nat) (hk : k < n) :
    ∃ g cap, v = .slice (some ⟨g, 0, none⟩) n cap ∧ g < w.heap.size ∧ w.cell? ⟨g, k * 4, none⟩ = some (fl (pX d nums k)) ∧ w.cell? ⟨g, k * 4 + 1, none⟩ = some (fl (pY d nums k)) ∧ w.cell? ⟨g, k * 4 + 2, none⟩ = some (fl (pZ d nums k)) ∧ w.cell? ⟨g, k * 4 + 3, none⟩ = some (fl (pM d nums k)) := by
  obtain ⟨g, cap, rfl, hb, hg⟩ := h.form (by omega)
  have hc : ∀ j (hj : j < 4) (v : Value), (placeCells d nums k)[j]? = some v → w.cell? ⟨g, k * 4 + j, none⟩ = some v := fun j hj v hv => by
    have := h.cells (g := g) rfl (k * 4 + j) v (by rw [placesCells_get d nums n k j hk hj, hv])
    rw [addr_add] at this
    simpa using this
  exact ⟨g, cap, rfl, hg, hc 0 (by omega) _ rfl, hc 1 (by omega) _ rfl, hc 2 (by omega) _ rfl, hc 3 (by omega) _ rfl⟩

set_option maxRecDepth 100000 in
set_option maxHeartbeats 8000000 in
theorem core (cs : List Value) (g : G) (i : Int) (hi : I64 i) (w : World) (h : IsG w w.heap.size cs g) :
    Calls Try.prog 9 #[.agg cs.toArray, .int .i64 i] w fun e w' => e = .returned (.bool true) ∧ Below w.heap.size w w' := by
  obtain ⟨k, d, A, B, n, c, m, e, nums, kids, rfl, rfl⟩ := h.inv
  obtain ⟨r, hr⟩ : ∃ r : Nat, d % 4 = r := ⟨(d % 4).toNat, by omega⟩
  have hL := Lib.hid (fun (W : World) h => gLine_any k d r hr A B n c m e nums kids W h)
  have h' := Lib.hid h
  by_cases hf : (decide (n ≤ 2147483647) && decide (m ≤ 2147483647)) = true
  · have hF := Lib.hid (fun w => fits_any k d A B n c m e w)
    rw [hf] at hF
    by_cases hl : isLine (.mk k d nums kids) = true
    · rw [hl] at hL
      have hk : k = 2 := by rw [isLine_mk] at hl; simp at hl; exact hl.2
      subst hk
      obtain ⟨hn, hnc, hA, hAc⟩ : nums.length = n ∧ n ≤ c ∧ Row w w.heap.size A (nums.map fl) ∧ (A = none → c = 0) := by
        cases h with
        | mk k d A B n c m e nums kids cells hk hd hn hnc hcm hA hfl hAc => exact ⟨hn, hnc, hA, hAc⟩
      have hn2 : n ≤ 2000 := by
        rw [isLine_mk] at hl
        simp at hl
        have := small_len hl
        omega
      clear hl hf h
      by_cases hi1 : i < -1000000
      · have hi1' : ¬ (-1000000 : Int) ≤ i := by omega
        go_enter Try.func9, Try.ntmps9
        go_wp2_with (first | (go_at_call 27; refine (hF.out _).mono ?_; rintro e w1 ⟨rfl, hb1⟩; have k1 := kcells hb1; have hw1 : Below w.heap.size w w1 := (((Below.refl _ _).alloc (Nat.le_refl _) _)).trans (hb1.mono (by simp))) | (go_at_call 28; refine (hL.out _ (h'.out.keep hw1.size fun p hp => hw1.cell hp)).mono ?_; rintro e w2 ⟨v, rfl, hown, hb2⟩; have k2 := kcells (hb2.mono hb1.size); have hw2 : Below w.heap.size w w2 := hw1.trans (hb2.mono hw1.size); have hown2 := Lib.hid (hown rfl); clear hown; obtain ⟨A', c', rfl⟩ := own_slice hown2.out) | fail)
        go_ret
        exact ⟨rfl, hw2⟩
      · by_cases hi2 : (1000000 : Int) < i
        · have hi1' : (-1000000 : Int) ≤ i := by omega
          go_enter Try.func9, Try.ntmps9
          go_wp2_with (first | (go_at_call 27; refine (hF.out _).mono ?_; rintro e w1 ⟨rfl, hb1⟩; have k1 := kcells hb1; have hw1 : Below w.heap.size w w1 := (((Below.refl _ _).alloc (Nat.le_refl _) _)).trans (hb1.mono (by simp))) | (go_at_call 28; refine (hL.out _ (h'.out.keep hw1.size fun p hp => hw1.cell hp)).mono ?_; rintro e w2 ⟨v, rfl, hown, hb2⟩; have k2 := kcells (hb2.mono hb1.size); have hw2 : Below w.heap.size w w2 := hw1.trans (hb2.mono hw1.size); have hown2 := Lib.hid (hown rfl); clear hown; obtain ⟨A', c', rfl⟩ := own_slice hown2.out) | fail)
          go_ret
          exact ⟨rfl, hw2⟩
        · have hi1' : (-1000000 : Int) ≤ i := by omega
          have hi2' : i ≤ (1000000 : Int) := by omega
          by_cases hout : i < 0 ∨ ((n / wd r : Nat) : Int) ≤ i
          · have hout' := Lib.hid hout
            by_cases hz : i < 0
            · have hz' : ¬ (0 : Int) ≤ i := by omega
              go_enter Try.func9, Try.ntmps9
              go_wp2_with (first | (go_at_call 27; refine (hF.out _).mono ?_; rintro e w1 ⟨rfl, hb1⟩; have k1 := kcells hb1; have hw1 : Below w.heap.size w w1 := (((Below.refl _ _).alloc (Nat.le_refl _) _)).trans (hb1.mono (by simp))) | (go_at_call 28; refine (hL.out _ (h'.out.keep hw1.size fun p hp => hw1.cell hp)).mono ?_; rintro e w2 ⟨v, rfl, hown, hb2⟩; have k2 := kcells (hb2.mono hb1.size); have hw2 : Below w.heap.size w w2 := hw1.trans (hb2.mono hw1.size); have hown2 := Lib.hid (hown rfl); clear hown; obtain ⟨A', c', rfl⟩ := own_slice hown2.out) | (go_at_call 29; refine (seqget_out d r hr A B n c m e nums hn hnc (by omega) hAc i (by omega) (by omega) hout _ (hA.keep hw2.size fun p hp => hw2.cell hp)).mono ?_; rintro e w3 ⟨rfl, hb3⟩; have hw3 : Below w.heap.size w w3 := hw2.trans (hb3.mono hw2.size)) | fail)
              go_ret
              exact ⟨rfl, hw3.alloc hw3.size _⟩
            · have hz' : (0 : Int) ≤ i := by omega
              have hz2 : ((n / wd r : Nat) : Int) ≤ i := by omega
              have hz3 : (n : Int) / (wd r : Int) ≤ i := by simpa using hz2
              go_enter Try.func9, Try.ntmps9
              go_wp2_with (first | (go_at_call 27; refine (hF.out _).mono ?_; rintro e w1 ⟨rfl, hb1⟩; have k1 := kcells hb1; have hw1 : Below w.heap.size w w1 := (((Below.refl _ _).alloc (Nat.le_refl _) _)).trans (hb1.mono (by simp))) | (go_at_call 28; refine (hL.out _ (h'.out.keep hw1.size fun p hp => hw1.cell hp)).mono ?_; rintro e w2 ⟨v, rfl, hown, hb2⟩; have k2 := kcells (hb2.mono hb1.size); have hw2 : Below w.heap.size w w2 := hw1.trans (hb2.mono hw1.size); have hown2 := Lib.hid (hown rfl); clear hown; obtain ⟨A', c', rfl⟩ := own_slice hown2.out) | (go_at_call 29; refine (seqget_out d r hr A B n c m e nums hn hnc (by omega) hAc i (by omega) (by omega) hout _ (hA.keep hw2.size fun p hp => hw2.cell hp)).mono ?_; rintro e w3 ⟨rfl, hb3⟩; have hw3 : Below w.heap.size w w3 := hw2.trans (hb3.mono hw2.size)) | fail)
              go_ret
              exact ⟨rfl, hw3.alloc hw3.size _⟩
          · obtain ⟨k, rfl⟩ : ∃ k : Nat, i = k := ⟨i.toNat, by omega⟩
            have hkn : k < n / wd r := by omega
            have hz' : (0 : Int) ≤ (k : Int) := by omega
            have hz2 : (k : Int) < ((n / wd r : Nat) : Int) := by omega
            have hz3 : (k : Int) < (n : Int) / (wd r : Int) := by simpa using hz2
            have ha : bits .and .i64 d 3 = (r : Int) := by rw [and3, hr]
            go_enter Try.func9, Try.ntmps9
            go_wp2_with (first | (go_at_call 27; refine (hF.out _).mono ?_; rintro e w1 ⟨rfl, hb1⟩; have k1 := kcells hb1; have hw1 : Below w.heap.size w w1 := (((Below.refl _ _).alloc (Nat.le_refl _) _)).trans (hb1.mono (by simp))) | (go_at_call 28; refine (hL.out _ (h'.out.keep hw1.size fun p hp => hw1.cell hp)).mono ?_; rintro e w2 ⟨v, rfl, hown, hb2⟩; have k2 := kcells (hb2.mono hb1.size); have hw2 : Below w.heap.size w w2 := hw1.trans (hb2.mono hw1.size); have hown2 := Lib.hid (hown rfl); clear hown; obtain ⟨A', c', rfl⟩ := own_slice hown2.out) | (go_at_call 29; refine (seqget_in d r hr A B n c m e nums hn hnc (by omega) hAc k hkn _ (hA.keep hw2.size fun p hp => hw2.cell hp)).mono ?_; rintro e w3 ⟨rfl, hb3⟩; have hw3 : Below w.heap.size w w3 := hw2.trans (hb3.mono hw2.size); have k3 := kcells ((hb3.mono hb2.size).mono hb1.size)) | fail)
            obtain ⟨g, cap, hg, hgz, c0, c1, c2, c3⟩ := own_place hown2.out k hkn
            injection hg with hg _ _
            subst hg
            obtain ⟨W4, hW4⟩ : ∃ W4, W4 = w3.alloc (.cells #[fl (pX r nums k), fl (pY r nums k), fl (pZ r nums k), fl (pM r nums k), .int .i64 r] 58) := ⟨_, rfl⟩
            rw [← hW4]
            have hw4 : Below w2.heap.size w2 W4 := by rw [hW4]; exact hb3.alloc hb3.size _
            have hz4 : w3.heap.size < W4.heap.size := by rw [hW4]; simp
            have c0 := kcell hw4 hgz c0
            have c1 := kcell hw4 hgz c1
            have c2 := kcell hw4 hgz c2
            have c3 := kcell hw4 hgz c3
            have gz : g < W4.heap.size := Nat.lt_of_lt_of_le hgz hw4.size
            have wz : w.heap.size < W4.heap.size := by have := hw3.size; omega
            have e0 : W4.cell? ⟨w3.heap.size, 0, none⟩ = some (fl (pX r nums k)) := by rw [hW4]; go_simp
            have e1 : W4.cell? ⟨w3.heap.size, 1, none⟩ = some (fl (pY r nums k)) := by rw [hW4]; go_simp
            have e2 : W4.cell? ⟨w3.heap.size, 2, none⟩ = some (fl (pZ r nums k)) := by rw [hW4]; go_simp
            have e3 : W4.cell? ⟨w3.heap.size, 3, none⟩ = some (fl (pM r nums k)) := by rw [hW4]; go_simp
            have e4 : W4.cell? ⟨w3.heap.size, 4, none⟩ = some (.int .i64 r) := by rw [hW4]; go_simp
            have d1 : W4.cell? ⟨w.heap.size, 1, none⟩ = some (.int .i64 d) := by
              rw [hW4]
              have z1 := hw1.size
              have z3 := hw3.size
              have k4 := kcells ((Below.refl (w.heap.size + 1) w3).alloc (by have := hb1.size; have := hb2.size; have := hb3.size; simp at *; omega) (.cells #[fl (pX r nums k), fl (pY r nums k), fl (pZ r nums k), fl (pM r nums k), .int .i64 r] 58))
              go_simp
            have hfin : Below w.heap.size w W4 := by rw [hW4]; exact hw3.alloc hw3.size _
            clear hW4 k1 k2 k3
            go_region_held (fun w' => w'.cell? ⟨g, k * 4, none⟩ = some (fl (pX r nums k)) ∧ w'.cell? ⟨g, k * 4 + 1, none⟩ = some (fl (pY r nums k)) ∧ w'.cell? ⟨g, k * 4 + 2, none⟩ = some (fl (pZ r nums k)) ∧ w'.cell? ⟨g, k * 4 + 3, none⟩ = some (fl (pM r nums k)) ∧ w'.cell? ⟨w3.heap.size, 0, none⟩ = some (fl (pX r nums k)) ∧ w'.cell? ⟨w3.heap.size, 1, none⟩ = some (fl (pY r nums k)) ∧ w'.cell? ⟨w3.heap.size, 2, none⟩ = some (fl (pZ r nums k)) ∧ w'.cell? ⟨w3.heap.size, 3, none⟩ = some (fl (pM r nums k)) ∧ w'.cell? ⟨w3.heap.size, 4, none⟩ = some (.int .i64 r) ∧ w'.cell? ⟨w.heap.size, 1, none⟩ = some (.int .i64 d)) (go_keep) (first | (go_at_call 30; refine (coords_any _ _ _ _ _ _ _ _ _ _ _).mono ?_; rintro e w5 ⟨rfl, hb5⟩; have k5 := kcells hb5; have s0 := (k5 _ _ gz).trans c0; have s1 := (k5 _ _ gz).trans c1; have s2 := (k5 _ _ gz).trans c2; have s3 := (k5 _ _ gz).trans c3; have r0 := (k5 _ _ hz4).trans e0; have r1 := (k5 _ _ hz4).trans e1; have r2 := (k5 _ _ hz4).trans e2; have r3 := (k5 _ _ hz4).trans e3; have r4 := (k5 _ _ hz4).trans e4; have r5 := (k5 _ _ wz).trans d1))
            go_wp2_with fail
            go_ret
            exact ⟨ret_bool (by simp), hfin.drew.trans (hb5.mono hfin.size)⟩
    · have hl' : isLine (.mk k d nums kids) = false := by simpa using hl
      rw [hl'] at hL
      clear hl hl' hf h
      go_enter Try.func9, Try.ntmps9
      go_wp2_with (first | (go_at_call 27; refine (hF.out _).mono ?_; rintro e w1 ⟨rfl, hb1⟩; have k1 := kcells hb1; have hw1 : Below w.heap.size w w1 := (((Below.refl _ _).alloc (Nat.le_refl _) _)).trans (hb1.mono (by simp))) | (go_at_call 28; refine (hL.out _ (h'.out.keep hw1.size fun p hp => hw1.cell hp)).mono ?_; rintro e w2 ⟨v, rfl, hown, hb2⟩; have k2 := kcells (hb2.mono hb1.size); have hw2 : Below w.heap.size w w2 := hw1.trans (hb2.mono hw1.size)) | fail)
      go_ret
      exact ⟨rfl, hw2⟩
  · have hf' : (decide (n ≤ 2147483647) && decide (m ≤ 2147483647)) = false := by simpa using hf
    have hF := Lib.hid (fun w => fits_any k d A B n c m e w)
    rw [hf'] at hF
    clear hf hf' h hL
    go_enter Try.func9, Try.ntmps9
    go_wp2_with (first | (go_at_call 27; refine (hF.out _).mono ?_; rintro e w1 ⟨rfl, hb1⟩; have k1 := kcells hb1; have hw1 : Below w.heap.size w w1 := (((Below.refl _ _).alloc (Nat.le_refl _) _)).trans (hb1.mono (by simp))) | fail)
    go_ret
    exact ⟨rfl, hw1⟩

section
variable {H : Type} {enc : TypeId × Value → H} {W : World} {base : Nat}
set_option maxRecDepth 100000 in
theorem walk {v0 v1 : Value} {d0 d1 : DataW H} {p0 p1 : List MemPlace}
    (o0 : Value.okWide Try.prog W .any base 52 v0) (h0 : DataW.Trod enc Try.prog W 0 (fun _ => true) true 52 v0 d0 p0)
    (o1 : Value.okWide Try.prog W .any base 3 v1) (h1 : DataW.Trod enc Try.prog W 0 (fun _ => true) true 3 v1 d1 p1) :
    Calls Try.prog 9 #[v0, v1] W fun e w' => e = .returned (.bool true) ∧ Below W.heap.size W w' := by
  obtain ⟨cs, g, rfl, hg⟩ := open_geom_arg o0 h0
  obtain ⟨i, rfl, rfl, rfl, wi⟩ := open_int Try.underlying3 o1 h1
  exact core cs.toList g i (Bit.wf_i64_bd wi) W hg
end
end Go.Proofs.Ytmdllkjlbalbpaa.FnSeqGet
