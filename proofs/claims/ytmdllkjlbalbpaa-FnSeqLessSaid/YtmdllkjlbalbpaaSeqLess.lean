/-
  'Sequence.less', 'impl.SeqLess': the order of sequences.
-/
import Derived.Test.YtmdllkjlbalbpaaLess
import Derived.Test.YtmdllkjlbalbpaaFacts
import Derived.Deep.DeepCutAuto
namespace Go.Proofs.Ytmdllkjlbalbpaa.Ls
open Go.ChangeShapes Go.WideShapes Go.ChangeAt Go.RowKit Go.Sort
open Wd Pl Ln Sq Gt Sg Same
attribute [local irreducible] wpQuiet
attribute [local go_sem ↓] Go.wp_at_zero Go.wp_at_succ run_neq_xy

set_option maxRecDepth 100000 in
set_option maxHeartbeats 800000 in
theorem less_any (r : Nat) (hr : r < 4) (g K : Nat) (xs : List Nat) (hK : xs.length = K) (hK2 : K ≤ 100000) (r' : Nat) (hr' : r' < 4) (g' K' : Nat) (ys : List Nat) (hKy : ys.length = K') (hKy2 : K' ≤ 100000)
    (w : World) (hg : g < w.heap.size) (h : w.heap[g]? = some (.cells (xs.map fl).toArray 30 (0, 0))) (hg' : g' < w.heap.size) (h' : w.heap[g']? = some (.cells (ys.map fl).toArray 30 (0, 0))) :
    Calls Try.prog 75 #[.agg #[.int .u8 r, .slice (some ⟨g, 0, none⟩) K K], .agg #[.int .u8 r', .slice (some ⟨g', 0, none⟩) K' K']] w fun ex w' =>
      ex = .returned (.bool (lessFrom (pX r xs) (pY r xs) (pX r' ys) (pY r' ys) (K' / wd r') (K / wd r) 0)) ∧ Below w.heap.size w w' := by
  have hL := Lib.hid (fun w => length_any r hr (some ⟨g, 0, none⟩) K K hK2 w)
  have hL' := Lib.hid (fun w => length_any r' hr' (some ⟨g', 0, none⟩) K' K' hKy2 w)
  have hG := Lib.hid (fun k hk w hg h => getxy_any r hr g K xs hK hK2 k hk w hg h)
  have hG' := Lib.hid (fun k hk w hg h => getxy_any r' hr' g' K' ys hKy hKy2 k hk w hg h)
  have hN : K / wd r ≤ 100000 := Nat.le_trans (Nat.div_le_self _ _) hK2
  have hN' : K' / wd r' ≤ 100000 := Nat.le_trans (Nat.div_le_self _ _) hKy2
  generalize K / wd r = N at *
  generalize K' / wd r' = N' at *
  have h2 := Lib.hid h
  have h2' := Lib.hid h'
  clear h h'
  go_enter Try.func75, Try.ntmps75
  go_wp2_with (first | (go_at_call 84; refine (hL'.out _).mono ?_; rintro e w1 ⟨rfl, hb1⟩; have k1 := kcells hb1) | fail)
  obtain ⟨B, hB⟩ : ∃ B, B = w.heap.size + 2 := ⟨_, rfl⟩
  have hz1 : B ≤ w1.heap.size := by have := hb1.size; simp at this; omega
  have s0 : w1.cell? ⟨w.heap.size, 0, none⟩ = some (.int .u8 r) := by go_simp
  have s1 : w1.cell? ⟨w.heap.size, 1, none⟩ = some (.slice (some ⟨g, 0, none⟩) K K) := by go_simp
  have o0 : w1.cell? ⟨w.heap.size + 1, 0, none⟩ = some (.int .u8 r') := by go_simp
  have o1 : w1.cell? ⟨w.heap.size + 1, 1, none⟩ = some (.slice (some ⟨g', 0, none⟩) K' K') := by go_simp
  have hbw : Below w.heap.size w w1 := ((((Below.refl _ _).alloc (Nat.le_refl _) _).alloc (by simp) _)).trans (hb1.mono (by simp <;> omega))
  clear k1 hb1
  have hgB : g < B := by omega
  have hgB' : g' < B := by omega
  have hg1 : g < w1.heap.size := by omega
  have hg1' : g' < w1.heap.size := by omega
  have h3 := Lib.hid ((hbw.block g hg).trans h2.out)
  have h3' := Lib.hid ((hbw.block g' hg').trans h2'.out)
  go_loopw [6] (fun i wr => ∃ k : Nat, k ≤ N ∧ k ≤ N' ∧ i = .int .i64 (k : Int) ∧ lessFrom (pX r xs) (pY r xs) (pX r' ys) (pY r' ys) N' (N - k) k = lessFrom (pX r xs) (pY r xs) (pX r' ys) (pY r' ys) N' N 0 ∧ Below B w1 wr) (fun i _ => N - (intOf i).toNat)
  case atStart => exact ⟨0, Nat.zero_le _, Nat.zero_le _, rfl, rfl, Below.refl _ _⟩
  case round =>
    obtain ⟨k, hk, hk', rfl, heq, hb⟩ := hrel
    have heq' := Lib.hid heq
    clear heq
    have q0 := kcells hb
    have b0 : w.heap.size < B := by omega
    have b1 : w.heap.size + 1 < B := by omega
    have hzr : B ≤ wr.heap.size := Nat.le_trans hz1 hb.size
    by_cases hlt : k < N
    · by_cases hlt' : k < N'
      · have z1 : (k : Int) < (N : Int) := by omega
        have z2 : (k : Int) < (N' : Int) := by omega
        go_wp2_with (first | (go_at_call 84; refine (hL.out _).mono ?_; rintro e w2 ⟨rfl, hb2⟩; have q2 := kcells (hb2.mono hzr)) | fail)
        have hw2 : Below B w1 w2 := hb.trans (hb2.mono hzr)
        have hz2 : B ≤ w2.heap.size := Nat.le_trans hz1 hw2.size
        have q3 := kcells hw2
        have cG : ∀ w', Held B w1 w' → Calls Try.prog 85 #[.agg #[.int .u8 r, .slice (some ⟨g, 0, none⟩) K K], .int .i64 (k : Int)] w' fun ex w'' => ex = .returned (.agg #[fl (pX r xs k), fl (pY r xs k)]) ∧ Below w'.heap.size w' w'' := fun w' h => hG.out k hlt w' (Nat.lt_of_lt_of_le hg1 h.1.size) ((h.1.block g hgB).trans h3.out)
        have cG' : ∀ w', Held B w1 w' → Calls Try.prog 85 #[.agg #[.int .u8 r', .slice (some ⟨g', 0, none⟩) K' K'], .int .i64 (k : Int)] w' fun ex w'' => ex = .returned (.agg #[fl (pX r' ys k), fl (pY r' ys k)]) ∧ Below w'.heap.size w' w'' := fun w' h => hG'.out k hlt' w' (Nat.lt_of_lt_of_le hg1' h.1.size) ((h.1.block g' hgB').trans h3'.out)
        have hS2 : Held B w1 w2 := heldOf hw2
        clear q0 q2 hb2 hw2 hb q3
        go_cut [7, 8] (fun s7 s8 wx => ∃ p q, s7 = .pointer (some ⟨p, 0, none⟩) ∧ s8 = .pointer (some ⟨q, 0, none⟩) ∧ Held B w1 wx ∧ p < wx.heap.size ∧ q < wx.heap.size ∧ wx.cell? ⟨p, 0, none⟩ = some (fl (pX r xs k)) ∧ wx.cell? ⟨p, 1, none⟩ = some (fl (pY r xs k)) ∧ wx.cell? ⟨q, 0, none⟩ = some (fl (pX r' ys k)) ∧ wx.cell? ⟨q, 1, none⟩ = some (fl (pY r' ys k)))
        case first =>
          go_region_held3 (fun w' => Below B w1 w' ∧ ∀ b o, b < B → w'.cell? ⟨b, o, none⟩ = w1.cell? ⟨b, o, none⟩) (with_reducible (repeat first | assumption | refine heldDrew ?_ | refine heldAlloc hz1 ?_ | refine heldSet ?_ (by simp <;> omega))) (first | (go_at_call 85; (with_reducible refine (cG _ (by assumption)).mono ?_); rintro e w3 ⟨rfl, hb3⟩; have hS3 := heldTrans (by with_reducible assumption) hb3 hz1; have hz3 := Nat.le_trans hz1 hS3.1.size; (try (refine old_k hb3 (w2.heap.size) ?_ ?_; (focus first | omega | (simp; done) | (simp; omega)); intro _ _ _ _ _ _ _ _)); (try (refine old_k hb3 (w2.heap.size + 1) ?_ ?_; (focus first | omega | (simp; done) | (simp; omega)); intro _ _ _ _ _ _ _ _))) | (go_at_call 85; (with_reducible refine (cG' _ (by assumption)).mono ?_); rintro e w4 ⟨rfl, hb4⟩; have hS4 := heldTrans (by with_reducible assumption) hb4 hz1; have hz4 := Nat.le_trans hz1 hS4.1.size; (try (refine old_k hb4 (w2.heap.size) ?_ ?_; (focus first | omega | (simp; done) | (simp; omega)); intro _ _ _ _ _ _ _ _)); (try (refine old_k hb4 (w2.heap.size + 1) ?_ ?_; (focus first | omega | (simp; done) | (simp; omega)); intro _ _ _ _ _ _ _ _)); (try (refine old_k hb4 (w3.heap.size) ?_ ?_; (focus first | omega | (simp; done) | (simp; omega)); intro _ _ _ _ _ _ _ _)); (try (refine old_k hb4 (w3.heap.size + 1) ?_ ?_; (focus first | omega | (simp; done) | (simp; omega)); intro _ _ _ _ _ _ _ _))))
          all_goals (go_wp2_with fail)
          all_goals go_meet
          all_goals (refine ⟨_, _, rfl, rfl, (by with_reducible assumption), ?_, ?_, ?_, ?_, ?_, ?_⟩ <;> go_simp)
        case rest =>
          obtain ⟨p, q, rfl, rfl, hS5, hp, hq, c0, c1, d0, d1⟩ := hcut
          have hstep : Hid (lessFrom (pX r xs) (pY r xs) (pX r' ys) (pY r' ys) N' (N - k) k = (if dif (pX r xs k) (pY r xs k) (pX r' ys k) (pY r' ys k) = true then lxy (pX r xs k) (pY r xs k) (pX r' ys k) (pY r' ys k) else lessFrom (pX r xs) (pY r xs) (pX r' ys) (pY r' ys) N' (N - (k + 1)) (k + 1))) := by
            refine Lib.hid ?_
            obtain ⟨f, hf⟩ : ∃ f, N - k = f + 1 := ⟨N - k - 1, by omega⟩
            have hf2 : N - (k + 1) = f := by omega
            rw [hf, hf2]
            conv => lhs; unfold lessFrom
            rw [if_neg (by omega)]
          by_cases hd : dif (pX r xs k) (pY r xs k) (pX r' ys k) (pY r' ys k) = true
          · have hl : Hid (lxy (pX r xs k) (pY r xs k) (pX r' ys k) (pY r' ys k) = lessFrom (pX r xs) (pY r xs) (pX r' ys) (pY r' ys) N' N 0) := by
              refine Lib.hid ?_
              rw [← heq'.out, hstep.out, if_pos hd]
            go_wp2_with (first | (go_at_call 86; refine (less_xy _ _ _ _ _).mono ?_; rintro e w6 ⟨rfl, hb6⟩) | fail)
            go_ret
            exact ⟨ret_bool hl.out, hbw.trans ((hS5.1.trans (hb6.mono (Nat.le_trans hz1 hS5.1.size))).mono (by omega))⟩
          · have hl : Hid (lessFrom (pX r xs) (pY r xs) (pX r' ys) (pY r' ys) N' (N - (k + 1)) (k + 1) = lessFrom (pX r xs) (pY r xs) (pX r' ys) (pY r' ys) N' N 0) := by
              refine Lib.hid ?_
              rw [← heq'.out, hstep.out, if_neg hd]
            have hd' : dif (pX r xs k) (pY r xs k) (pX r' ys k) (pY r' ys k) = false := by simpa using hd
            clear hd
            go_wp2_with fail
            go_roundw
            case rel => exact ⟨k + 1, by omega, by omega, by go_num, hl.out, hS5.1⟩
            case measure => simp [intOf]; omega
      · have hl : Hid (lessFrom (pX r xs) (pY r xs) (pX r' ys) (pY r' ys) N' N 0 = true) := by
          refine Lib.hid ?_
          rw [← heq'.out]
          obtain ⟨f, hf⟩ : ∃ f, N - k = f + 1 := ⟨N - k - 1, by omega⟩
          rw [hf]
          unfold lessFrom
          rw [if_pos (by omega)]
        have z1 : (k : Int) < (N : Int) := by omega
        have z2 : (N' : Int) ≤ (k : Int) := by omega
        go_wp2_with (first | (go_at_call 84; refine (hL.out _).mono ?_; rintro e w2 ⟨rfl, hb2⟩; have q2 := kcells (hb2.mono hzr)) | fail)
        go_ret
        exact ⟨ret_bool hl.out.symm, hbw.trans ((hb.trans (hb2.mono hzr)).mono (by omega))⟩
    · have hl : Hid (lessFrom (pX r xs) (pY r xs) (pX r' ys) (pY r' ys) N' N 0 = false) := by
        refine Lib.hid ?_
        rw [← heq'.out, show N - k = 0 from by omega]
        rfl
      have z1 : ¬ (k : Int) < (N : Int) := by omega
      go_wp2_with (first | (go_at_call 84; refine (hL.out _).mono ?_; rintro e w2 ⟨rfl, hb2⟩; have q2 := kcells (hb2.mono hzr)) | fail)
      go_ret
      exact ⟨ret_bool hl.out.symm, hbw.trans ((hb.trans (hb2.mono hzr)).mono (by omega))⟩
end Go.Proofs.Ytmdllkjlbalbpaa.Ls
