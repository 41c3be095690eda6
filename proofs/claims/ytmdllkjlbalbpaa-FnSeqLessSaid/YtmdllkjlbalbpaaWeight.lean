/-
  'gWeight', 'gSmall': the size of a geometry, counted.
-/
import Derived.Test.YtmdllkjlbalbpaaGeom
import Derived.Outline
namespace Go.Proofs.Ytmdllkjlbalbpaa.Wt
open Go.ChangeShapes Go.WideShapes Go.ChangeAt Go.RowKit Go.Sort
attribute [local irreducible] wpQuiet

mutual
def weight : G → Int → Int
  | .mk _ _ nums kids, left => if left < 1 ∨ (nums.length : Int) > left ∨ (kids.length : Int) > left then -1 else weights kids (left - 1 - nums.length)
def weights : List G → Int → Int
  | [], left => left
  | g :: gs, left => if left < 0 then left else weights gs (weight g left)
end

mutual
theorem weight_le : ∀ (g : G) (left : Int), weight g left < left ∨ (left < 1 ∧ weight g left = -1)
  | .mk k d nums kids, left => by
    unfold weight
    split
    · omega
    · have := weights_le kids (left - 1 - nums.length)
      omega
theorem weights_le : ∀ (l : List G) (left : Int), weights l left ≤ left
  | [], left => by unfold weights; omega
  | g :: gs, left => by
    unfold weights
    split
    · omega
    · have h1 := weight_le g left
      have h2 := weights_le gs (weight g left)
      omega
end
mutual
theorem weight_ge : ∀ (g : G) (left : Int), -1 ≤ weight g left
  | .mk k d nums kids, left => by
    unfold weight
    split
    · omega
    · exact weights_ge kids _ (by omega)
theorem weights_ge : ∀ (l : List G) (left : Int), -1 ≤ left → -1 ≤ weights l left
  | [], left, h => by unfold weights; omega
  | g :: gs, left, h => by
    unfold weights
    split
    · omega
    · exact weights_ge gs _ (weight_ge g left)
end
theorem weights_neg (l : List G) {left : Int} (h : left < 0) : weights l left = left := by
  cases l with
  | nil => unfold weights; rfl
  | cons g gs => unfold weights; rw [if_pos h]

theorem _root_.Go.Proofs.Ytmdllkjlbalbpaa.IsG.inv {w : World} {BB : Nat} {cs : List Value} {g : G} (h : IsG w BB cs g) : ∃ k d A B n c m e nums kids, cs = [.int .i64 k, .int .i64 d, .slice A n c, .slice B m e] ∧ g = .mk k d nums kids := by
  cases h with
  | mk k d A B n c m e nums kids => exact ⟨k, d, A, B, n, c, m, e, nums, kids, rfl, rfl⟩

/-- a part's cells -/
theorem row_kid {w : World} {BB m : Nat} {B : Option Addr} {cells : List Value} {i : Nat} {g : G} (hB : Row w BB B cells) (hl : cells.length = 4 * m) (hi : i < m) (hg : IsG w BB ((cells.drop (4 * i)).take 4) g) :
    ∃ b o k' d' A' n' c' B' m' e', B = some ⟨b, o, none⟩ ∧ b < BB ∧ w.cell? ⟨b, o + i * 4, none⟩ = some (.int .i64 k') ∧ w.cell? ⟨b, o + i * 4 + 1, none⟩ = some (.int .i64 d') ∧
      w.cell? ⟨b, o + i * 4 + 2, none⟩ = some (.slice A' n' c') ∧ w.cell? ⟨b, o + i * 4 + 3, none⟩ = some (.slice B' m' e') ∧ (cells.drop (4 * i)).take 4 = [.int .i64 k', .int .i64 d', .slice A' n' c', .slice B' m' e'] := by
  obtain ⟨b, o, rfl, hb, hcell⟩ := hB.at_ (by omega)
  have c0 := hcell (4 * i) (by omega)
  have c1 := hcell (4 * i + 1) (by omega)
  have c2 := hcell (4 * i + 2) (by omega)
  have c3 := hcell (4 * i + 3) (by omega)
  have e : (cells.drop (4 * i)).take 4 = [cells[4 * i]'(by omega), cells[4 * i + 1]'(by omega), cells[4 * i + 2]'(by omega), cells[4 * i + 3]'(by omega)] := by
    refine List.ext_getElem (by simp; omega) fun j hj hj' => ?_
    simp only [List.getElem_take, List.getElem_drop]
    have : j = 0 ∨ j = 1 ∨ j = 2 ∨ j = 3 := by simp at hj'; omega
    rcases this with rfl | rfl | rfl | rfl <;> rfl
  obtain ⟨k', d', A', B', n', c', m', e', nums', kids', eq, -⟩ := hg.inv
  rw [e] at eq
  simp only [List.cons.injEq, and_true] at eq
  obtain ⟨q0, q1, q2, q3⟩ := eq
  rw [q0] at c0
  rw [q1] at c1
  rw [q2] at c2
  rw [q3] at c3
  rw [q0, q1, q2, q3] at e
  exact ⟨b, o, k', d', A', n', c', B', m', e', rfl, hb, by rw [Nat.mul_comm]; exact c0, by rw [Nat.mul_comm]; exact c1, by rw [Nat.mul_comm]; exact c2, by rw [Nat.mul_comm]; exact c3, e⟩

set_option maxRecDepth 100000 in
set_option maxHeartbeats 4000000 in
theorem weight_any {W : World} {BB : Nat} {cs : List Value} {g : G} (h : IsG W BB cs g) : ∀ (w : World), BB ≤ w.heap.size → (∀ p : Addr, p.block < BB → w.cell? p = W.cell? p) → ∀ left : Int, -1 ≤ left → left ≤ 1000000 →
    Calls Try.prog 66 #[.agg cs.toArray, .int .i64 left] w fun e w' => e = .returned (.int .i64 (weight g left)) ∧ Below w.heap.size w w' := by
  induction h with
  | mk k d A B n c m e nums kids cells hk hd hn hc hcm hA hfl hAc hm he hem hl hB hK ih =>
    intro w hBB hkeep left h0 h1
    have hG := IsG.mk k d A B n c m e nums kids cells hk hd hn hc hcm hA hfl hAc hm he hem hl hB hK
    have ih' := Lib.hid ih
    have hK' := Lib.hid hK
    clear ih hK hA
    by_cases hs : left < 1 ∨ (n : Int) > left ∨ (m : Int) > left
    · have hw : weight (.mk k d nums kids) left = -1 := by unfold weight; rw [hn, hm, if_pos hs]
      rw [hw]
      clear hw
      by_cases z1 : left < 1
      · go_enter Try.func66, Try.ntmps66
        go_wp2_with fail
        go_ret
        exact ⟨rfl, ((Below.refl _ _).alloc (Nat.le_refl _) _)⟩
      · have z1' : (1 : Int) ≤ left := by omega
        by_cases z2 : left < (n : Int)
        · clear hs
          go_enter Try.func66, Try.ntmps66
          go_wp2_with fail
          go_ret
          exact ⟨rfl, ((Below.refl _ _).alloc (Nat.le_refl _) _)⟩
        · have z2' : (n : Int) ≤ left := by omega
          have z3 : left < (m : Int) := by omega
          clear hs
          go_enter Try.func66, Try.ntmps66
          go_wp2_with fail
          go_ret
          exact ⟨rfl, ((Below.refl _ _).alloc (Nat.le_refl _) _)⟩
    · have z1 : (1 : Int) ≤ left := by omega
      have z2 : (n : Int) ≤ left := by omega
      have z3 : (m : Int) ≤ left := by omega
      have hw : weight (.mk k d nums kids) left = weights kids (left - 1 - n) := by unfold weight; rw [hn, hm, if_neg hs]
      rw [hw]
      clear hs hw
      go_enter Try.func66, Try.ntmps66
      go_wp2_with fail
      go_loopw [1, 5] (fun l i wr => ∃ (j : Nat) (lf : Int), j ≤ m ∧ i = .int .i64 (j : Int) ∧ l = .int .i64 lf ∧ -1 ≤ lf ∧ lf ≤ 1000000 ∧ weights (kids.drop j) lf = weights kids (left - 1 - n) ∧ Below w.heap.size w wr ∧ w.heap.size < wr.heap.size ∧
          wr.cell? ⟨w.heap.size, 0, none⟩ = some (.int .i64 k) ∧ wr.cell? ⟨w.heap.size, 1, none⟩ = some (.int .i64 d) ∧ wr.cell? ⟨w.heap.size, 2, none⟩ = some (.slice A n c) ∧ wr.cell? ⟨w.heap.size, 3, none⟩ = some (.slice B m e)) (fun _ i _ => m - (intOf i).toNat)
      case atStart => exact ⟨0, left - 1 - n, Nat.zero_le _, by go_num, by go_num, by omega, by omega, by simp, ((Below.refl _ _).alloc (Nat.le_refl _) _), by simp, by go_simp, by go_simp, by go_simp, by go_simp⟩
      case round =>
        obtain ⟨j, lf, hj, rfl, rfl, l0, l1, heq, hb, hz, g0, g1, g2, g3⟩ := hrel
        have heq' := Lib.hid heq
        clear heq
        by_cases y1 : j < m
        · by_cases y2 : 0 ≤ lf
          · obtain ⟨g, hgj⟩ : ∃ g, kids[j]? = some g := ⟨_, List.getElem?_eq_getElem (by omega)⟩
            obtain ⟨b, o, k', d', A', n', c', B', m', e', rfl, hbb, c0, c1, c2, c3, hcs⟩ := row_kid hB hl y1 (hK'.out j g hgj)
            rw [← hkeep _ hbb, ← hb.cell (Nat.lt_of_lt_of_le hbb hBB)] at c0 c1 c2 c3
            have hih := Lib.hid (ih'.out j g hgj)
            rw [hcs] at hih
            have hgj' := Lib.hid hgj
            clear hgj
            have hBB2 := Nat.le_trans hBB hb.size
            go_wp2_with fail
            refine (hih.out wr hBB2 (fun p hp => (hb.cell (Nat.lt_of_lt_of_le hp hBB)).trans (hkeep p hp)) lf l0 l1).mono ?_
            rintro e1 w1 ⟨rfl, hb1⟩
            go_wp2_with fail
            go_roundw
            case rel =>
              refine ⟨j + 1, weight g lf, by omega, by go_num, rfl, weight_ge g lf, ?_, ?_, hb.trans (hb1.mono hb.size), ?_, kcell hb1 hz g0, kcell hb1 hz g1, kcell hb1 hz g2, kcell hb1 hz g3⟩
              · have := weight_le g lf; omega
              · rw [← heq'.out]
                have hd' : kids.drop j = g :: kids.drop (j + 1) := by
                  obtain ⟨hjl, he'⟩ := List.getElem?_eq_some_iff.mp hgj'.out
                  rw [← he', List.drop_eq_getElem_cons hjl]
                rw [hd']
                conv => rhs; unfold weights
                rw [if_neg (by omega)]
              · have := hb1.size; omega
            case measure => simp [intOf]; omega
          · have y2' : lf < 0 := by omega
            have y3 := Lib.hid (show weights kids (left - 1 - n) = lf by rw [← heq'.out, weights_neg _ y2'])
            go_wp2_with fail
            go_ret
            exact ⟨by rw [y3.out]; rfl, hb⟩
        · have y3 := Lib.hid (show weights kids (left - 1 - n) = lf by rw [← heq'.out, List.drop_of_length_le (by omega)]; rfl)
          have y1' : ¬ (j : Int) < (m : Int) := by omega
          go_wp2_with fail
          go_ret
          exact ⟨by rw [y3.out]; rfl, hb⟩

/-- a slice of geometries -/
def IsGs (w : World) (BB : Nat) (A : Option Addr) (gs : List G) : Prop :=
  ∃ cells : List Value, cells.length = 4 * gs.length ∧ Row w BB A cells ∧ ∀ i g, gs[i]? = some g → IsG w BB ((cells.drop (4 * i)).take 4) g

theorem one_gs {w : World} {BB b : Nat} {v0 v1 v2 v3 : Value} {g : G} (h : IsG w BB [v0, v1, v2, v3] g) (hb : b < BB) (c0 : w.cell? ⟨b, 0, none⟩ = some v0) (c1 : w.cell? ⟨b, 1, none⟩ = some v1) (c2 : w.cell? ⟨b, 2, none⟩ = some v2) (c3 : w.cell? ⟨b, 3, none⟩ = some v3) :
    IsGs w BB (some ⟨b, 0, none⟩) [g] := by
  refine ⟨[v0, v1, v2, v3], rfl, Or.inr ⟨b, 0, rfl, hb, fun j hj => ?_⟩, fun i g' hg => ?_⟩
  · have : j = 0 ∨ j = 1 ∨ j = 2 ∨ j = 3 := by simp at hj; omega
    rcases this with rfl | rfl | rfl | rfl <;> simpa
  · have hi : i = 0 := by have := (List.getElem?_eq_some_iff.mp hg).1; simp at this; exact this
    subst hi
    simp at hg
    subst hg
    exact h

set_option maxRecDepth 100000 in
set_option maxHeartbeats 4000000 in
theorem small_any (A : Option Addr) (n c : Nat) (gs : List G) (hn : gs.length = n) (hnm : n ≤ 1000000) (w : World) (h : IsGs w w.heap.size A gs) :
    Calls Try.prog 47 #[.slice A n c] w fun e w' => e = .returned (.bool (decide (0 ≤ weights gs 2000))) ∧ Below w.heap.size w w' := by
  obtain ⟨cells, hl, hB, hK⟩ := h
  have hK' := Lib.hid hK
  clear hK
  go_enter Try.func47, Try.ntmps47
  go_wp2_with fail
  go_loopw [3, 4] (fun l i wr => ∃ (j : Nat) (lf : Int), j ≤ n ∧ i = .int .i64 (j : Int) ∧ l = .int .i64 lf ∧ -1 ≤ lf ∧ lf ≤ 1000000 ∧ weights (gs.drop j) lf = weights gs 2000 ∧ Below w.heap.size w wr) (fun _ i _ => n - (intOf i).toNat)
  case atStart => exact ⟨0, 2000, Nat.zero_le _, by go_num, rfl, by omega, by omega, by simp, Below.refl _ _⟩
  case round =>
    obtain ⟨j, lf, hj, rfl, rfl, l0, l1, heq, hb⟩ := hrel
    have heq' := Lib.hid heq
    clear heq
    by_cases y1 : j < n
    · by_cases y2 : 0 ≤ lf
      · obtain ⟨g, hgj⟩ : ∃ g, gs[j]? = some g := ⟨_, List.getElem?_eq_getElem (by omega)⟩
        obtain ⟨b, o, k', d', A', n', c', B', m', e', rfl, hbb, c0, c1, c2, c3, hcs⟩ := row_kid hB hl (by omega) (hK'.out j g hgj)
        rw [← hb.cell hbb] at c0 c1 c2 c3
        have hih := Lib.hid (weight_any (hK'.out j g hgj))
        rw [hcs] at hih
        have hgj' := Lib.hid hgj
        clear hgj
        have hBB2 := hb.size
        go_wp2_with fail
        refine (hih.out wr hBB2 (fun p hp => hb.cell hp) lf l0 l1).mono ?_
        rintro e1 w1 ⟨rfl, hb1⟩
        go_wp2_with fail
        go_roundw
        case rel =>
          refine ⟨j + 1, weight g lf, by omega, by go_num, rfl, weight_ge g lf, ?_, ?_, hb.trans (hb1.mono hb.size)⟩
          · have := weight_le g lf; omega
          · rw [← heq'.out]
            have hd' : gs.drop j = g :: gs.drop (j + 1) := by
              obtain ⟨hjl, he'⟩ := List.getElem?_eq_some_iff.mp hgj'.out
              rw [← he', List.drop_eq_getElem_cons hjl]
            rw [hd']
            conv => rhs; unfold weights
            rw [if_neg (by omega)]
        case measure => simp [intOf]; omega
      · have y2' : lf < 0 := by omega
        have y3 := Lib.hid (show weights gs 2000 = lf by rw [← heq'.out, weights_neg _ y2'])
        go_wp2_with fail
        go_ret
        exact ⟨by rw [y3.out, decide_eq_false (by omega)]; rfl, hb⟩
    · have y3 := Lib.hid (show weights gs 2000 = lf by rw [← heq'.out, List.drop_of_length_le (by omega)]; rfl)
      have y1' : ¬ (j : Int) < (n : Int) := by omega
      go_wp2_with fail
      go_ret
      exact ⟨by rw [y3.out]; rfl, hb⟩
end Go.Proofs.Ytmdllkjlbalbpaa.Wt
