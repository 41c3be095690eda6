/-
  Contracts of the statements' own tests on shapes: places within bounds.
-/
import Derived.Test.YtmdllkjlbalbpaaWalk
import Derived.Outline
namespace Go.Proofs.Ytmdllkjlbalbpaa.Formed
open Go.ChangeShapes Go.WideShapes Go.ChangeAt Go.RowKit Go.Sort

/-- a slice of places that reads as a list; it lies below block 'B' -/
def Pts (w : World) (B : Nat) (A : Option Addr) (l : List (Int × Int)) : Prop :=
  l = [] ∨ ∃ b o, A = some ⟨b, o, none⟩ ∧ b < B ∧ ∀ j (h : j < l.length), w.cell? ⟨b, o + j * 2, none⟩ = some (.int .i64 l[j].1) ∧ w.cell? ⟨b, o + j * 2 + 1, none⟩ = some (.int .i64 l[j].2)

def inBd (most : Int) (p : Int × Int) : Bool := decide (-most ≤ p.1 ∧ p.1 ≤ most ∧ -most ≤ p.2 ∧ p.2 ≤ most)

theorem inBd_true {most x y : Int} (h : inBd most (x, y) = true) : -most ≤ x ∧ x ≤ most ∧ -most ≤ y ∧ y ≤ most := of_decide_eq_true h
theorem inBd_false {most x y : Int} (h : ¬ inBd most (x, y) = true) : x < -most ∨ most < x ∨ y < -most ∨ most < y := by
  have h' : ¬ (-most ≤ x ∧ x ≤ most ∧ -most ≤ y ∧ y ≤ most) := fun hh => h (decide_eq_true hh)
  omega
theorem all_false {α : Type} {f : α → Bool} {l : List α} {k : Nat} (h : k < l.length) (hf : ¬ f l[k] = true) : l.all f = false := by
  rw [List.all_eq_false]; exact ⟨l[k], List.getElem_mem h, hf⟩
theorem all_snoc {α : Type} {f : α → Bool} {l : List α} {k : Nat} (h : k < l.length) (ht : (l.take k).all f = true) (hf : f l[k] = true) : (l.take (k + 1)).all f = true := by
  rw [List.take_succ_eq_append_getElem h, List.all_append, ht]; simp [hf]
theorem ret_bool {a b : Bool} (h : a = b) : Ending.returned (.bool a) = .returned (.bool b) := by rw [h]

set_option maxHeartbeats 2000000 in
theorem formedBelow_line (most deep : Int) (hd : 0 ≤ deep) (hm0 : 0 ≤ most) (hm1 : most ≤ 1073741824) (A : Option Addr) (c : Nat) (l : List (Int × Int)) (hlen : l.length ≤ 9223372036854775807) (w : World) (hp : Pts w w.heap.size A l)
    (hwf : ∀ p ∈ l, -9223372036854775808 ≤ p.1 ∧ p.1 ≤ 9223372036854775807 ∧ -9223372036854775808 ≤ p.2 ∧ p.2 ≤ 9223372036854775807) :
    Calls Try.prog 59 #[.agg #[.int .i64 2, .slice A l.length c, .slice none 0 0], .int .i64 most, .int .i64 deep] w fun e w' => e = .returned (.bool (l.all (inBd most))) ∧ Below w.heap.size w w' := by
  go_enter Try.func59, Try.ntmps59
  go_wp2
  go_loopw [17] (fun i wr => ∃ k : Nat, k ≤ l.length ∧ i = .int .i64 k ∧ (l.take k).all (inBd most) = true ∧ Below w.heap.size w wr ∧ w.heap.size < wr.heap.size ∧
      wr.cell? ⟨w.heap.size, 0, none⟩ = some (.int .i64 2) ∧ wr.cell? ⟨w.heap.size, 1, none⟩ = some (.slice A l.length c) ∧ wr.cell? ⟨w.heap.size, 2, none⟩ = some (.slice none 0 0)) (fun i _ => l.length - (intOf i).toNat)
  case atStart =>
    exact ⟨0, Nat.zero_le _, rfl, by simp, (Below.refl _ _).alloc (Nat.le_refl _) _, by simp, by go_simp, by go_simp, by go_simp⟩
  case round =>
    obtain ⟨k, hk, rfl, hall, hb, hz, c0, c1, c2⟩ := hrel
    by_cases hlt : k < l.length
    · rcases hp with rfl | ⟨b, o, rfl, hbb, hcell⟩
      · simp at hlt
      · have h1 := (hcell k hlt).1
        have h2 := (hcell k hlt).2
        have hw' := hwf l[k] (List.getElem_mem hlt)
        rw [← hb.cell (p := ⟨b, _, none⟩) hbb] at h1 h2
        by_cases hin : inBd most l[k] = true
        · have hs := Lib.hid (all_snoc hlt hall hin)
          generalize l[k] = q at *
          obtain ⟨x, y⟩ := q
          obtain ⟨i1, i2, i3, i4⟩ := inBd_true hin
          clear hin hall hcell hwf
          dsimp only at h1 h2 hw'
          rcases Int.lt_trichotomy x y with hxy | rfl | hxy
          all_goals
            go_wp2
            go_roundw
            case rel => exact ⟨k + 1, by omega, by go_num, hs.out, hb.alloc (by omega) _, by simp; omega, by go_simp, by go_simp, by go_simp⟩
            case measure => simp [intOf]; omega
        · have hs := Lib.hid (all_false hlt hin)
          generalize l[k] = q at *
          obtain ⟨x, y⟩ := q
          have i1 := inBd_false hin
          clear hin hall hcell hwf
          dsimp only at h1 h2 hw'
          rcases Int.lt_trichotomy x y with hxy | rfl | hxy
          all_goals
            go_wp2
            all_goals first
              | (go_ret; exact ⟨ret_bool hs.out.symm, hb.alloc (by omega) _⟩)
              | (exfalso; omega)
    · have hs : Hid (l.all (inBd most) = true) := by rw [List.take_of_length_le (by omega)] at hall; exact hall
      clear hall
      go_wp2
      go_ret
      exact ⟨ret_bool hs.out.symm, hb⟩

theorem Pts.keep {w w' : World} {B B' : Nat} {A : Option Addr} {l : List (Int × Int)} (h : Pts w B A l) (hB : B ≤ B') (hc : ∀ b o, b < B → w'.cell? ⟨b, o, none⟩ = w.cell? ⟨b, o, none⟩) : Pts w' B' A l := by
  rcases h with rfl | ⟨b, o, rfl, hb, hcell⟩
  · exact Or.inl rfl
  · refine Or.inr ⟨b, o, rfl, by omega, fun j hj => ?_⟩
    rw [hc _ _ hb, hc _ _ hb]
    exact hcell j hj
theorem Pts.alloc {w : World} {A : Option Addr} {l : List (Int × Int)} (h : Pts w w.heap.size A l) (o : Obj) : Pts (w.alloc o) (w.alloc o).heap.size A l :=
  h.keep (by simp) fun b _ hb => World.cell?_alloc_lt w o ⟨b, _, none⟩ hb

theorem formed_line (most : Int) (hm0 : 0 ≤ most) (hm1 : most ≤ 1073741824) (A : Option Addr) (c : Nat) (l : List (Int × Int)) (hlen : l.length ≤ 9223372036854775807) (w : World) (hp : Pts w w.heap.size A l)
    (hwf : ∀ p ∈ l, -9223372036854775808 ≤ p.1 ∧ p.1 ≤ 9223372036854775807 ∧ -9223372036854775808 ≤ p.2 ∧ p.2 ≤ 9223372036854775807) :
    Calls Try.prog 37 #[.agg #[.int .i64 2, .slice A l.length c, .slice none 0 0], .int .i64 most] w fun e w' => e = .returned (.bool (l.all (inBd most))) ∧ Below w.heap.size w w' := by
  have hp' := hp.alloc (.cells #[.int .i64 2, .slice A l.length c, .slice none 0 0] 73)
  have H := Lib.hid hp'
  clear hp hp'
  go_enter Try.func37, Try.ntmps37
  go_wp2_with fail
  refine (formedBelow_line most 100 (by omega) hm0 hm1 A c l hlen _ H.out hwf).mono ?_
  rintro e w1 ⟨rfl, hb⟩
  go_wp2_with fail
  go_ret
  exact ⟨rfl, ((Below.refl _ _).alloc (Nat.le_refl _) _).trans (hb.mono (by simp))⟩

theorem dPlaces_any (most : Int) (hm0 : 0 ≤ most) (hm1 : most ≤ 1073741824) (A : Option Addr) (c : Nat) (l : List (Int × Int)) (hlen : l.length ≤ 9223372036854775807) (w : World) (hp : Pts w w.heap.size A l)
    (hwf : ∀ p ∈ l, -9223372036854775808 ≤ p.1 ∧ p.1 ≤ 9223372036854775807 ∧ -9223372036854775808 ≤ p.2 ∧ p.2 ≤ 9223372036854775807) :
    Calls Try.prog 13 #[.int .i64 most, .slice A l.length c] w fun e w' => e = .returned (.bool (decide (l.length ≤ 200) && l.all (inBd most))) ∧ Below w.heap.size w w' := by
  by_cases hl : l.length ≤ 200
  · go_enter Try.func13, Try.ntmps13
    go_wp2_with fail
    refine (formed_line most hm0 hm1 A c l hlen _ hp hwf).mono ?_
    rintro e w1 ⟨rfl, hb⟩
    go_wp2_with fail
    go_ret
    exact ⟨ret_bool (by simp [hl]), hb⟩
  · have hl' : decide ((l.length : Int) ≤ 200) = false := decide_eq_false (by omega)
    go_enter Try.func13, Try.ntmps13
    go_wp2_with fail
    go_ret
    exact ⟨ret_bool (by simp [hl]), Below.refl _ _⟩
end Go.Proofs.Ytmdllkjlbalbpaa.Formed
