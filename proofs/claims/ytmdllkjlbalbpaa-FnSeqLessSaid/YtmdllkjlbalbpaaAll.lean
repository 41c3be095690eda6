/-
  'gAll' of 'gNumber': it answers, whatever it answers.
-/
import Derived.Test.YtmdllkjlbalbpaaWeight
import Derived.Test.YtmdllkjlbalbpaaPlaces
import Derived.Test.YtmdllkjlbalbpaaFacts
import Derived.Test.YtmdllkjlbalbpaaFits
namespace Go.Proofs.Ytmdllkjlbalbpaa.Al
open Go.ChangeShapes Go.WideShapes Go.ChangeAt Go.RowKit Go.Sort
open Wt Pl
attribute [local irreducible] wpQuiet

mutual
/-- of all numbers -/
def allG (p : Nat → Bool) : G → Bool
  | .mk _ _ nums kids => nums.all p && allGs p kids
def allGs (p : Nat → Bool) : List G → Bool
  | [] => true
  | g :: gs => allG p g && allGs p gs
end
theorem allG_mk (p : Nat → Bool) (k d : Int) (nums : List Nat) (kids : List G) : allG p (.mk k d nums kids) = (nums.all p && allGs p kids) := by
  rw [allG]

/-- a number that is not NaN -/
def num (x : Nat) : Bool := !(FloatKind.f64.format.order x x != some .eq)

theorem isnan_any (x : Nat) (w : World) : Calls Try.prog 55 #[fl x] w fun ex w' => ex = .returned (.bool (!num x)) ∧ Below w.heap.size w w' := by
  go_enter Try.func55, Try.ntmps55
  go_wp2_with fail
  go_ret
  exact ⟨ret_bool' (by unfold num; simp), by (repeat first | exact Below.refl _ _ | refine Below.drew ?_ | refine Below.setCell ?_ (by simp) _ | refine Below.alloc ?_ (by simp <;> omega) _)⟩

theorem number_any (x : Nat) (w : World) : Calls Try.prog 32 #[fl x] w fun ex w' => ex = .returned (.bool (num x)) ∧ Below w.heap.size w w' := by
  go_enter Try.func32, Try.ntmps32
  go_wp2_with (first | (go_at_call 55; refine (isnan_any _ _).mono ?_; rintro e w1 ⟨rfl, hb1⟩) | fail)
  go_ret
  exact ⟨ret_bool' (by simp), hb1⟩

set_option maxRecDepth 100000 in
set_option maxHeartbeats 3000000 in
theorem all_num {W : World} {BB : Nat} {cs : List Value} {g : G} (h : IsG W BB cs g) : ∀ (w : World), BB ≤ w.heap.size → (∀ p : Addr, p.block < BB → w.cell? p = W.cell? p) →
    Calls Try.prog 31 #[.agg cs.toArray, .func (.func 32) #[] #[]] w fun ex w' => ex = .returned (.bool (allG num g)) ∧ Below w.heap.size w w' := by
  induction h with
  | mk k d A B n c m e nums kids cells hk hd hn hc hcm hA hfl hAc hm he hem hl hB hK ih =>
    intro w hBB hkeep
    have ih' := Lib.hid ih
    have hK' := Lib.hid hK
    have hA' := Lib.hid hA
    have hg := Lib.hid (allG_mk num k d nums kids)
    rw [hg.out]
    have hgb := Lib.hid (rfl : (nums.all num && allGs num kids) = (nums.all num && allGs num kids))
    clear ih hK hA hg
    generalize hR : (nums.all num && allGs num kids) = R at *
    have hR' := Lib.hid hR
    clear hR hgb
    have hn' : (n : Int) ≤ 9223372036854775807 := by have := hc; unfold maxLen at hcm; omega
    have hm' : (m : Int) ≤ 9223372036854775807 := by unfold maxLen at hem; omega
    go_enter Try.func31, Try.ntmps31
    go_wp2_with fail
    go_loopw [12] (fun i wr => ∃ j : Nat, j ≤ n ∧ i = .int .i64 (j : Int) ∧ ((nums.drop j).all num && allGs num kids) = R ∧ Below (w.heap.size + 1) (w.alloc (.cells #[.int .i64 k, .int .i64 d, .slice A n c, .slice B m e] 52)) wr) (fun i _ => n - (intOf i).toNat)
    case atStart => exact ⟨0, Nat.zero_le _, rfl, by simpa using hR'.out, Below.refl _ _⟩
    case round =>
      obtain ⟨j, hj, rfl, heq, hb⟩ := hrel
      have heq' := Lib.hid heq
      clear heq
      have k1 := fcell hb
      have hbw : Below w.heap.size w wr := ((Below.refl _ _).alloc (Nat.le_refl _) _).trans (hb.mono (Nat.le_succ _))
      have hz1 : w.heap.size + 1 ≤ wr.heap.size := by have := hb.size; simpa using this
      by_cases hlt : j < n
      · obtain ⟨b, o, rfl, hbb, c0⟩ := row_num hA'.out (i := j) (by omega)
        rw [← hkeep _ hbb, ← hbw.cell (Nat.lt_of_lt_of_le hbb hBB)] at c0
        have z1 : (j : Int) < (n : Int) := by omega
        have z2 : (0 : Int) ≤ (j : Int) := by omega
        have hdrop : Hid (nums.drop j = gd nums j :: nums.drop (j + 1)) := by
          refine Lib.hid ?_
          rw [List.drop_eq_getElem_cons (by omega)]
          simp [gd, show j < nums.length from by omega]
        by_cases hp : num (gd nums j) = true
        · have hnext : Hid (((nums.drop (j + 1)).all num && allGs num kids) = R) := by
            refine Lib.hid ?_
            rw [← heq'.out, hdrop.out, List.all_cons, hp, Bool.true_and]
          go_wp2_with (first | (go_at_call 32; refine (number_any _ _).mono ?_; rintro e w1 ⟨rfl, hb1⟩; rw [hp]) | fail)
          go_roundw
          case rel => exact ⟨j + 1, by omega, by go_num, hnext.out, hb.trans (hb1.mono hz1)⟩
          case measure => simp [intOf]; omega
        · have hp' : num (gd nums j) = false := by simpa using hp
          have hend : Hid (false = R) := by
            refine Lib.hid ?_
            rw [← heq'.out, hdrop.out, List.all_cons, hp']
            rfl
          go_wp2_with (first | (go_at_call 32; refine (number_any _ _).mono ?_; rintro e w1 ⟨rfl, hb1⟩; rw [hp']) | fail)
          go_ret
          exact ⟨ret_bool' hend.out, hbw.trans (hb1.mono hbw.size)⟩
      · have z1 : ¬ (j : Int) < (n : Int) := by omega
        have hend : Hid (allGs num kids = R) := by
          refine Lib.hid ?_
          rw [← heq'.out, List.drop_of_length_le (by omega)]
          rfl
        clear heq'
        go_wp2_with fail
        go_loopw [24] (fun i ws => ∃ j : Nat, j ≤ m ∧ i = .int .i64 (j : Int) ∧ allGs num (kids.drop j) = R ∧ Below w.heap.size w ws) (fun i _ => m - (intOf i).toNat)
        case atStart => exact ⟨0, Nat.zero_le _, rfl, by simpa using hend.out, hbw⟩
        case round =>
          obtain ⟨i, hi, rfl, heq, hbs⟩ := hrel
          have heq' := Lib.hid heq
          clear heq
          by_cases hlt2 : i < m
          · obtain ⟨g, hgj⟩ : ∃ g, kids[i]? = some g := ⟨_, List.getElem?_eq_getElem (by omega)⟩
            obtain ⟨b, o, k', d', A', n', c', B', m', e', rfl, hbb, c0, c1, c2, c3, hcs⟩ := row_kid hB hl hlt2 (hK'.out i g hgj)
            rw [← hkeep _ hbb, ← hbs.cell (Nat.lt_of_lt_of_le hbb hBB)] at c0 c1 c2 c3
            have hih := Lib.hid (ih'.out i g hgj)
            rw [hcs] at hih
            have hgj' := Lib.hid hgj
            have hBB2 := Nat.le_trans hBB hbs.size
            have z3 : (i : Int) < (m : Int) := by omega
            have z4 : (0 : Int) ≤ (i : Int) := by omega
            have hd' : Hid (kids.drop i = g :: kids.drop (i + 1)) := by
              refine Lib.hid ?_
              obtain ⟨hjl, he'⟩ := List.getElem?_eq_some_iff.mp hgj'.out
              rw [← he', List.drop_eq_getElem_cons hjl]
            clear hgj
            by_cases hp : allG num g = true
            · rw [hp] at hih
              have hnext : Hid (allGs num (kids.drop (i + 1)) = R) := by
                refine Lib.hid ?_
                rw [← heq'.out, hd'.out]
                conv => rhs; unfold allGs
                rw [hp]
                rfl
              go_wp2_with (first | (go_at_call 31; refine (hih.out _ (Nat.le_trans hBB2 (by simp)) (fun p hp => (Below.cell (B := wr.heap.size) (by (repeat first | exact Below.refl _ _ | refine Below.drew ?_ | refine Below.setCell ?_ (by simp) _ | refine Below.alloc ?_ (by simp <;> omega) _)) (Nat.lt_of_lt_of_le hp hBB2)).trans ((hbs.cell (Nat.lt_of_lt_of_le hp hBB)).trans (hkeep p hp)))).mono ?_; rintro e w1 ⟨rfl, hb1⟩) | fail)
              go_roundw
              case rel => exact ⟨i + 1, by omega, by go_num, hnext.out, hbs.trans (((Below.refl _ _).alloc hbs.size _).trans (hb1.mono (by simp; exact Nat.le_succ_of_le hbs.size)))⟩
              case measure => simp [intOf]; omega
            · have hp' : allG num g = false := by simpa using hp
              rw [hp'] at hih
              have hnext : Hid (false = R) := by
                refine Lib.hid ?_
                rw [← heq'.out, hd'.out]
                conv => rhs; unfold allGs
                rw [hp']
                rfl
              go_wp2_with (first | (go_at_call 31; refine (hih.out _ (Nat.le_trans hBB2 (by simp)) (fun p hp => (Below.cell (B := wr.heap.size) (by (repeat first | exact Below.refl _ _ | refine Below.drew ?_ | refine Below.setCell ?_ (by simp) _ | refine Below.alloc ?_ (by simp <;> omega) _)) (Nat.lt_of_lt_of_le hp hBB2)).trans ((hbs.cell (Nat.lt_of_lt_of_le hp hBB)).trans (hkeep p hp)))).mono ?_; rintro e w1 ⟨rfl, hb1⟩) | fail)
              go_ret
              exact ⟨ret_bool' hnext.out, hbs.trans (((Below.refl _ _).alloc hbs.size _).trans (hb1.mono (by simp; exact Nat.le_succ_of_le hbs.size)))⟩
          · have z3 : ¬ (i : Int) < (m : Int) := by omega
            have hend2 : Hid (true = R) := by
              refine Lib.hid ?_
              rw [← heq'.out, List.drop_of_length_le (by omega)]
              unfold allGs
              rfl
            go_wp2_with fail
            go_ret
            exact ⟨ret_bool' hend2.out, hbs⟩
end Go.Proofs.Ytmdllkjlbalbpaa.Al
