/-
  'impl.SeqLess', 'sLess': the order of sequences, and of places.
-/
import Derived.Test.YtmdllkjlbalbpaaSeqLess
import Derived.Test.YtmdllkjlbalbpaaGLine
namespace Go.Proofs.Ytmdllkjlbalbpaa.Ls
open Go.ChangeShapes Go.WideShapes Go.ChangeAt Go.RowKit Go.Sort
open Wd Pl Ln Sq Gt Sg Same
attribute [local irreducible] wpQuiet
attribute [local go_sem ↓] Go.wp_at_zero Go.wp_at_succ run_neq_xy

/-- what both sides compute -/
def lessOf (r n : Nat) (xs : List Nat) (r' m : Nat) (ys : List Nat) : Bool := lessFrom (pX r xs) (pY r xs) (pX r' ys) (pY r' ys) (m / wd r') (n / wd r) 0

theorem lessFrom_eq {X Y X' Y' : Nat → Nat} {nb : Nat} {X2 Y2 X2' Y2' : Nat → Nat} : ∀ (f i : Nat), (∀ j, j < i + f → X j = X2 j ∧ Y j = Y2 j) → (∀ j, j < nb → X' j = X2' j ∧ Y' j = Y2' j) → lessFrom X Y X' Y' nb f i = lessFrom X2 Y2 X2' Y2' nb f i := by
  intro f
  induction f with
  | zero => intro i _ _; rfl
  | succ f ih =>
    intro i h1 h2
    unfold lessFrom
    by_cases hb : nb ≤ i
    · rw [if_pos hb, if_pos hb]
    · rw [if_neg hb, if_neg hb]
      obtain ⟨e1, e2⟩ := h1 i (by omega)
      obtain ⟨e3, e4⟩ := h2 i (by omega)
      rw [e1, e2, e3, e4, ih (i + 1) (fun j hj => h1 j (by omega)) h2]

theorem pX_take (d : Nat) (hd : d < 4) (nums : List Nat) (m i : Nat) (h : i < m) : pX d (nums.take (m * wd d)) i = pX d nums i ∧ pY d (nums.take (m * wd d)) i = pY d nums i := by
  have hp := placeCells_take d hd nums m i h
  unfold placeCells at hp
  simp only [List.cons.injEq, and_true] at hp
  obtain ⟨p0, p1, -, -⟩ := hp
  injection p0 with _ p0
  injection p1 with _ p1
  exact ⟨p0, p1⟩

theorem less_take (r : Nat) (hr : r < 4) (n : Nat) (xs : List Nat) (r' : Nat) (hr' : r' < 4) (m : Nat) (ys : List Nat) :
    lessFrom (pX r (xs.take (n / wd r * wd r))) (pY r (xs.take (n / wd r * wd r))) (pX r' (ys.take (m / wd r' * wd r'))) (pY r' (ys.take (m / wd r' * wd r'))) (m / wd r' * wd r' / wd r') (n / wd r * wd r / wd r) 0 = lessOf r n xs r' m ys := by
  rw [Nat.mul_div_cancel (n / wd r) (by have := wd_bd r; omega), Nat.mul_div_cancel (m / wd r') (by have := wd_bd r'; omega)]
  exact lessFrom_eq _ _ (fun j hj => pX_take r hr xs _ j (by omega)) (fun j hj => pX_take r' hr' ys _ j hj)

set_option maxRecDepth 100000 in
theorem door_any (r : Nat) (hr : r < 4) (g K : Nat) (xs : List Nat) (hK : xs.length = K) (hK2 : K ≤ 100000) (r' : Nat) (hr' : r' < 4) (g' K' : Nat) (ys : List Nat) (hKy : ys.length = K') (hKy2 : K' ≤ 100000)
    (w : World) (hg : g < w.heap.size) (h : w.heap[g]? = some (.cells (xs.map fl).toArray 30 (0, 0))) (hg' : g' < w.heap.size) (h' : w.heap[g']? = some (.cells (ys.map fl).toArray 30 (0, 0))) :
    Calls Try.prog 56 #[.agg #[.int .u8 r, .slice (some ⟨g, 0, none⟩) K K], .agg #[.int .u8 r', .slice (some ⟨g', 0, none⟩) K' K']] w fun ex w' =>
      ex = .returned (.bool (lessFrom (pX r xs) (pY r xs) (pX r' ys) (pY r' ys) (K' / wd r') (K / wd r) 0)) ∧ Below w.heap.size w w' := by
  have hL := Lib.hid (fun w hg h hg' h' => less_any r hr g K xs hK hK2 r' hr' g' K' ys hKy hKy2 w hg h hg' h')
  have h2 := Lib.hid h
  have h2' := Lib.hid h'
  clear h h'
  go_enter Try.func56, Try.ntmps56
  go_wp2_with (first | (go_at_call 75; refine (hL.out _ (by simp <;> omega) ((Below.block (B := w.heap.size) (by (repeat first | exact Below.refl _ _ | refine Below.drew ?_ | refine Below.setCell ?_ (by simp) _ | refine Below.alloc ?_ (by simp <;> omega) _)) g hg).trans h2.out) (by simp <;> omega) ((Below.block (B := w.heap.size) (by (repeat first | exact Below.refl _ _ | refine Below.drew ?_ | refine Below.setCell ?_ (by simp) _ | refine Below.alloc ?_ (by simp <;> omega) _)) g' hg').trans h2'.out)).mono ?_; rintro e w1 ⟨rfl, hb1⟩) | fail)
  go_ret
  exact ⟨rfl, ((((Below.refl _ _).alloc (Nat.le_refl _) _).alloc (by simp) _)).trans (hb1.mono (by simp <;> omega))⟩

theorem take_len {nums : List Nat} {n r : Nat} (hn : nums.length = n) : (nums.take (n / wd r * wd r)).length = n / wd r * wd r := by have := Nat.div_mul_le_self n (wd r); simp; omega

theorem rowHeld {w W1 w' : World} {B : Nat} {A : Option Addr} {xs : List Value} (h : Row w w.heap.size A xs) (hb : Below w.heap.size w W1) (hB : w.heap.size ≤ B) (hS : Held B W1 w') : Row w' w'.heap.size A xs :=
  h.keep (Nat.le_trans hb.size hS.1.size) fun _ hp => (hS.1.cell (Nat.lt_of_lt_of_le hp hB)).trans (hb.cell hp)

set_option maxRecDepth 100000 in
set_option maxHeartbeats 4000000 in
theorem seqless_any (d : Int) (r : Nat) (hr : d % 4 = r) (A B : Option Addr) (n c m e : Nat) (nums : List Nat) (hn : nums.length = n) (hnc : n ≤ c) (hn2 : n ≤ 100000) (hA : A = none → c = 0)
    (d' : Int) (r' : Nat) (hr' : d' % 4 = r') (A' B' : Option Addr) (n' c' m' e' : Nat) (nums' : List Nat) (hn' : nums'.length = n') (hnc' : n' ≤ c') (hn2' : n' ≤ 100000) (hA' : A' = none → c' = 0)
    (w : World) (h : Row w w.heap.size A (nums.map fl)) (h' : Row w w.heap.size A' (nums'.map fl)) :
    Calls Try.prog 33 #[.agg #[.int .i64 2, .int .i64 d, .slice A n c, .slice B m e], .agg #[.int .i64 2, .int .i64 d', .slice A' n' c', .slice B' m' e']] w fun ex w' =>
      ex = .returned (.bool (lessOf r n nums r' n' nums')) ∧ Below w.heap.size w w' := by
  have hL := Lib.hid (fun w h => line_any d r hr A B n c m e nums hn hnc hn2 hA w h)
  have hL' := Lib.hid (fun w h => line_any d' r' hr' A' B' n' c' m' e' nums' hn' hnc' hn2' hA' w h)
  have h2 := Lib.hid h
  have h2' := Lib.hid h'
  clear h h'
  go_enter Try.func33, Try.ntmps33
  go_wp2_with fail
  obtain ⟨W1, hW1⟩ : ∃ W1, W1 = ((w.alloc (.cells #[.int .i64 2, .int .i64 d, .slice A n c, .slice B m e] 52)).alloc (.cells #[.int .i64 2, .int .i64 d', .slice A' n' c', .slice B' m' e'] 52)) := ⟨_, rfl⟩
  rw [← hW1]
  obtain ⟨BB, hBB⟩ : ∃ BB, BB = w.heap.size + 2 := ⟨_, rfl⟩
  have hbw : Below w.heap.size w W1 := by rw [hW1]; exact (((Below.refl _ _).alloc (Nat.le_refl _) _).alloc (by simp) _)
  have hBw : w.heap.size ≤ BB := by omega
  have hz1 : BB ≤ W1.heap.size := by rw [hW1]; simp; omega
  have b0 : w.heap.size < BB := by omega
  have b1 : w.heap.size + 1 < BB := by omega
  have s0 : W1.cell? ⟨w.heap.size, 0, none⟩ = some (.int .i64 2) := by rw [hW1]; go_simp
  have s1 : W1.cell? ⟨w.heap.size, 1, none⟩ = some (.int .i64 d) := by rw [hW1]; go_simp
  have s2 : W1.cell? ⟨w.heap.size, 2, none⟩ = some (.slice A n c) := by rw [hW1]; go_simp
  have s3 : W1.cell? ⟨w.heap.size, 3, none⟩ = some (.slice B m e) := by rw [hW1]; go_simp
  have o0 : W1.cell? ⟨w.heap.size + 1, 0, none⟩ = some (.int .i64 2) := by rw [hW1]; go_simp
  have o1 : W1.cell? ⟨w.heap.size + 1, 1, none⟩ = some (.int .i64 d') := by rw [hW1]; go_simp
  have o2 : W1.cell? ⟨w.heap.size + 1, 2, none⟩ = some (.slice A' n' c') := by rw [hW1]; go_simp
  have o3 : W1.cell? ⟨w.heap.size + 1, 3, none⟩ = some (.slice B' m' e') := by rw [hW1]; go_simp
  clear hW1
  have hS1 : Held BB W1 W1 := heldOf (Below.refl _ _)
  have hD := Lib.hid (fun g g' w hg h hg' h' => door_any r (by omega) g (n / wd r * wd r) (nums.take (n / wd r * wd r)) (take_len hn) (Nat.le_trans (Nat.div_mul_le_self n (wd r)) hn2) r' (by omega) g' (n' / wd r' * wd r') (nums'.take (n' / wd r' * wd r')) (take_len hn') (Nat.le_trans (Nat.div_mul_le_self n' (wd r')) hn2') w hg h hg' h')
  rw [less_take r (by omega) n nums r' (by omega) n' nums'] at hD
  go_region_held3 (fun w' => Below BB W1 w' ∧ ∀ b o, b < BB → w'.cell? ⟨b, o, none⟩ = W1.cell? ⟨b, o, none⟩) (with_reducible (repeat first | assumption | refine heldDrew ?_)) (first | (go_at_call 51; (with_reducible refine (hL.out _ (rowHeld h2.out hbw hBw (by assumption))).mono ?_); rintro e w3 ⟨g1, hg3, hl3, rfl, hc3, hb3⟩; have hS3 := heldTrans (by with_reducible assumption) hb3 hz1) | (go_at_call 51; (with_reducible refine (hL'.out _ (rowHeld h2'.out hbw hBw (by assumption))).mono ?_); rintro e w5 ⟨g2, hg5, hl5, rfl, hc5, hb5⟩; have hS5 := heldTrans (by with_reducible assumption) hb5 hz1; have hm5 := (hb5.block g1 hl4).trans hc4; have hn5 := Nat.lt_of_lt_of_le hl4 hb5.size) | (go_at_call 52; (with_reducible refine (coordinates_any r (n / wd r * wd r) _ (some ⟨g1, 0, none⟩) _).mono ?_); rintro e w4 ⟨rfl, hb4⟩; have hS4 := heldTrans (by with_reducible assumption) hb4 hz1; have hc4 := (hb4.block g1 hl3).trans hc3; have hl4 := Nat.lt_of_lt_of_le hl3 hb4.size) | (go_at_call 52; (with_reducible refine (coordinates_any r' (n' / wd r' * wd r') _ (some ⟨g2, 0, none⟩) _).mono ?_); rintro e w6 ⟨rfl, hb6⟩; have hS6 := heldTrans (by with_reducible assumption) hb6 hz1; have hc6 := (hb6.block g2 hl5).trans hc5; have hl6 := Nat.lt_of_lt_of_le hl5 hb6.size; have hm6 := (hb6.block g1 hn5).trans hm5; have hn6 := Nat.lt_of_lt_of_le hn5 hb6.size) | (go_at_call 56; (with_reducible refine (hD.out g1 g2 _ hn6 hm6 hl6 hc6).mono ?_); rintro e w7 ⟨rfl, hb7⟩; have hS7 := heldTrans (by with_reducible assumption) hb7 hz1))
  go_wp2_with fail
  go_ret
  exact ⟨rfl, hbw.trans (hS7.1.mono hBw)⟩
end Go.Proofs.Ytmdllkjlbalbpaa.Ls
