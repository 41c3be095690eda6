/-
  'gLine': the places of a small line string.
-/
import Derived.Test.YtmdllkjlbalbpaaLine
namespace Go.Proofs.Ytmdllkjlbalbpaa.Ln
open Go.ChangeShapes Go.WideShapes Go.ChangeAt Go.RowKit Go.Sort
open Wd Pl Wt
attribute [local irreducible] wpQuiet
attribute [local go_sem ↓] Go.wp_at_zero Go.wp_at_succ

theorem gd_take {nums : List Nat} {K i : Nat} (h : i < K) : gd (nums.take K) i = gd nums i := by
  unfold gd
  rw [List.getD_eq_getElem?_getD, List.getD_eq_getElem?_getD, List.getElem?_take_of_lt h]

theorem wd_idx (d : Nat) (hd : d < 4) : (d % 2 = 1 → 2 < wd d) := by
  have : d = 0 ∨ d = 1 ∨ d = 2 ∨ d = 3 := by omega
  rcases this with rfl | rfl | rfl | rfl <;> simp [wd]

theorem placesCells_take (d : Nat) (hd : d < 4) (nums : List Nat) (m : Nat) : placesCells d (nums.take (m * wd d)) m = placesCells d nums m := by
  unfold placesCells
  rw [List.flatMap_def, List.flatMap_def]
  congr 1
  refine List.map_congr_left fun i hi => ?_
  have hi' : i < m := by simpa using hi
  have hw := wd_bd d
  have hb : i * wd d + wd d ≤ m * wd d := by
    rw [← Nat.succ_mul]; exact Nat.mul_le_mul_right _ hi'
  unfold placeCells pX pY pZ pM
  rw [gd_take (by omega), gd_take (by omega), gd_take (i := i * wd d + (wd d - 1)) (by omega)]
  by_cases h : d % 2 = 1
  · have := wd_idx d hd h
    rw [gd_take (i := i * wd d + 2) (by omega)]
  · simp [h]

theorem row_own {w : World} {base n c : Nat} {e : TypeId} {A : Option Addr} {xs : List Value} (h : w.ownsRow base e 1 (.slice A n c) n xs) : Row w w.heap.size A xs := by
  by_cases hn : 0 < n
  · obtain ⟨g, cap, hv, hb, hg⟩ := h.form hn
    injection hv with hA
    subst hA
    refine Or.inr ⟨g, 0, rfl, hg, fun j hj => ?_⟩
    have := h.cells (g := g) rfl j xs[j] (List.getElem?_eq_getElem hj)
    rwa [addr_add] at this
  · have : xs = [] := List.eq_nil_of_length_eq_zero (by have := h.1; omega)
    exact Or.inl this

theorem places_any (d : Nat) (hd : d < 4) (A : Option Addr) (n c : Nat) (nums : List Nat) (hn : nums.length = n) (hn2 : n ≤ 100000) (w : World) (h : Row w w.heap.size A (nums.map fl)) :
    Calls Try.prog 49 #[.slice A n c, .int .i64 (d : Int)] w fun e w' => ∃ v, e = .returned v ∧ w'.ownsRow w.heap.size 63 4 v (n / wd d) (placesCells d nums (n / wd d)) ∧ Below w.heap.size w w' := by
  have : d = 0 ∨ d = 1 ∨ d = 2 ∨ d = 3 := by omega
  rcases this with rfl | rfl | rfl | rfl
  · exact places_0 A n c nums hn hn2 w h
  · exact places_1 A n c nums hn hn2 w h
  · exact places_2 A n c nums hn hn2 w h
  · exact places_3 A n c nums hn hn2 w h

/-- whether it is a small line string -/
def isLine : G → Bool
  | .mk k d nums kids => decide (0 ≤ weights [.mk k d nums kids] 2000) && decide (k = 2)

theorem isLine_mk (k d : Int) (nums : List Nat) (kids : List G) : isLine (.mk k d nums kids) = (decide (0 ≤ weights [.mk k d nums kids] 2000) && decide (k = 2)) := rfl
theorem small_len {k d : Int} {nums : List Nat} {kids : List G} (h : 0 ≤ weights [.mk k d nums kids] 2000) : nums.length ≤ 2000 := by
  unfold weights at h
  rw [if_neg (by decide)] at h
  unfold weights at h
  unfold weight at h
  split at h
  · omega
  · omega

/-- what 'gLine' answers -/
def Lined (w : World) (r : Nat) (nums : List Nat) (n : Nat) (is : Bool) (ex : Ending) (w' : World) : Prop :=
  ∃ v, ex = .returned (.tuple #[v, .bool is]) ∧ (is = true → w'.ownsRow w.heap.size 63 4 v (n / wd r) (placesCells r nums (n / wd r))) ∧ Below w.heap.size w w'

set_option maxRecDepth 100000 in
set_option maxHeartbeats 8000000 in
theorem gLine_any (k d : Int) (r : Nat) (hr : d % 4 = r) (A B : Option Addr) (n c m e : Nat) (nums : List Nat) (kids : List G) (w : World)
    (h : IsG w w.heap.size [.int .i64 k, .int .i64 d, .slice A n c, .slice B m e] (.mk k d nums kids)) :
    Calls Try.prog 28 #[.agg #[.int .i64 k, .int .i64 d, .slice A n c, .slice B m e]] w (Lined w r nums n (isLine (.mk k d nums kids))) := by
  have h' := Lib.hid h
  clear h
  go_enter Try.func28, Try.ntmps28
  go_wp2_with fail
  refine (small_any (some ⟨w.heap.size + 1, 0, none⟩) 1 1 [.mk k d nums kids] rfl (by omega) _ ?_).mono ?_
  · refine one_gs (h'.out.keep (by simp <;> omega) fun p hp => ?_) (by simp) (by go_simp) (by go_simp) (by go_simp) (by go_simp)
    rw [World.cell?_alloc_lt _ _ p (by simp <;> omega), World.cell?_alloc_lt _ _ p hp]
  rintro ex w1 ⟨rfl, hb1⟩
  have hsz : w.heap.size + 1 < w1.heap.size := by have := hb1.size; simp at this; omega
  have hbb : Below w.heap.size w w1 := ((((Below.refl _ _).alloc (Nat.le_refl _) _).alloc (by simp) _)).trans (hb1.mono (by simp <;> omega))
  have c0 : w1.cell? ⟨w.heap.size, 0, none⟩ = some (.int .i64 k) := kcell hb1 (by simp <;> omega) (by go_simp)
  have c1 : w1.cell? ⟨w.heap.size, 1, none⟩ = some (.int .i64 d) := kcell hb1 (by simp <;> omega) (by go_simp)
  have c2 : w1.cell? ⟨w.heap.size, 2, none⟩ = some (.slice A n c) := kcell hb1 (by simp <;> omega) (by go_simp)
  have c3 : w1.cell? ⟨w.heap.size, 3, none⟩ = some (.slice B m e) := kcell hb1 (by simp <;> omega) (by go_simp)
  clear hb1
  by_cases hw : 0 ≤ weights [.mk k d nums kids] 2000
  · rw [decide_eq_true hw]
    by_cases hk : k = 2
    · subst hk
      have hl : Hid (isLine (.mk 2 d nums kids) = true) := by
        refine Lib.hid ?_
        rw [isLine_mk]; rw [decide_eq_true hw]; rfl
      rw [hl.out]
      have hn2 := small_len hw
      obtain ⟨hn, hnc, hA, hAc⟩ : nums.length = n ∧ n ≤ c ∧ Row w w.heap.size A (nums.map fl) ∧ (A = none → c = 0) := by
        cases h'.out with
        | mk k d A B n c m e nums kids cells hk hd hn hnc hcm hA hfl hAc => exact ⟨hn, hnc, hA, hAc⟩
      have hcN := Lib.hid (new_line d r hr A B n c m e nums hn hnc (by omega) hAc w1 ((hA.below hbb).keep hbb.size fun _ _ => rfl))
      have hr4 : r < 4 := by omega
      clear hw hA hAc h'
      go_wp2_with fail
      refine hcN.out.mono ?_
      rintro ex w2 ⟨v, rfl, hown, hb2⟩
      obtain ⟨A', c', rfl⟩ := own_slice hown
      have hpl := Lib.hid (places_any r hr4 A' (n / wd r * wd r) c' (nums.take (n / wd r * wd r)) (by have := Nat.div_mul_le_self n (wd r); simp; omega) (by have := Nat.div_mul_le_self n (wd r); omega))
      have hrow := row_own hown
      rw [Nat.mul_div_cancel _ (by have := wd_bd r; omega), placesCells_take r hr4] at hpl
      generalize n / wd r * wd r = K at *
      go_wp2_with fail
      refine (hpl.out _ (hrow.keep (by simp) fun p hp => World.cell?_alloc_lt _ _ p hp)).mono ?_
      rintro ex w3 ⟨v, rfl, hown3, hb3⟩
      have hs2 := hb2.size
      have hfin : Below w.heap.size w w3 := ((hbb.trans (hb2.mono (by omega))).alloc (by omega) _).trans (hb3.mono (by simp <;> omega))
      have hown4 := Lib.hid (hown3.mono (base' := w.heap.size) (by simp <;> omega))
      clear hown3 hb3 hb2 hbb hrow hpl hown hcN
      go_wp2_with fail
      go_ret2
      rw [hl.out]
      exact ⟨v, rfl, fun _ => hown4.out, hfin⟩
    · have hl : Hid (isLine (.mk k d nums kids) = false) := by
        refine Lib.hid ?_
        rw [isLine_mk]; rw [decide_eq_false hk, Bool.and_false]
      rw [hl.out]
      have hk' : (k != 2) = true := by simpa using hk
      clear hw
      go_wp2_with fail
      go_ret2
      rw [hl.out]
      exact ⟨.slice none 0 0, rfl, fun h => (by cases h), hbb⟩
  · rw [decide_eq_false hw]
    have hl : Hid (isLine (.mk k d nums kids) = false) := by
      refine Lib.hid ?_
      rw [isLine_mk]; rw [decide_eq_false hw]; rfl
    rw [hl.out]
    clear hw
    go_wp2_with fail
    go_ret2
    rw [hl.out]
    exact ⟨.slice none 0 0, rfl, fun h => (by cases h), hbb⟩
end Go.Proofs.Ytmdllkjlbalbpaa.Ln
