/-
  'sLess': the order of places; 'gAll', 'gNumber'.
-/
import Derived.Test.YtmdllkjlbalbpaaDoorLess
namespace Go.Proofs.Ytmdllkjlbalbpaa.Ls
open Go.ChangeShapes Go.WideShapes Go.ChangeAt Go.RowKit Go.Sort
open Wd Pl Ln Sq Gt Sg Same
attribute [local irreducible] wpQuiet
attribute [local go_sem ↓] Go.wp_at_zero Go.wp_at_succ

/-- places in memory: X and Y -/
def Pls (w : World) (A : Option Addr) (N : Nat) (X Y : Nat → Nat) : Prop :=
  N = 0 ∨ ∃ g, A = some ⟨g, 0, none⟩ ∧ g < w.heap.size ∧ ∀ k, k < N → w.cell? ⟨g, k * 4, none⟩ = some (fl (X k)) ∧ w.cell? ⟨g, k * 4 + 1, none⟩ = some (fl (Y k))

theorem placesCells_get (d : Nat) (nums : List Nat) : ∀ (n k j : Nat), k < n → j < 4 → (placesCells d nums n)[k * 4 + j]? = (placeCells d nums k)[j]? := by
  intro n
  induction n with
  | zero => intro k j h; omega
  | succ n ih =>
    intro k j hk hj
    have hl : ∀ n, (placesCells d nums n).length = n * 4 := by
      intro n
      induction n with
      | zero => rfl
      | succ n ih2 => rw [placesCells_succ, List.length_append, ih2]; simp [placeCells]; omega
    rw [placesCells_succ, List.getElem?_append]
    by_cases h : k < n
    · rw [if_pos (by rw [hl]; omega), ih k j h hj]
    · have : k = n := by omega
      subst this
      rw [if_neg (by rw [hl]; omega), hl]
      congr 1
      omega

/-- a place of an owned row of places -/
theorem own_place {w : World} {base : Nat} {d n : Nat} {v : Value} {nums : List Nat} {e : TypeId} (h : w.ownsRow base e 4 v n (placesCells d nums n)) (k : Nat) (hk : k < n) :
    ∃ g cap, v = .slice (some ⟨g, 0, none⟩) n cap ∧ g < w.heap.size ∧ w.cell? ⟨g, k * 4, none⟩ = some (fl (pX d nums k)) ∧ w.cell? ⟨g, k * 4 + 1, none⟩ = some (fl (pY d nums k)) ∧ w.cell? ⟨g, k * 4 + 2, none⟩ = some (fl (pZ d nums k)) ∧ w.cell? ⟨g, k * 4 + 3, none⟩ = some (fl (pM d nums k)) := by
  obtain ⟨g, cap, rfl, hb, hg⟩ := h.form (by omega)
  have hc : ∀ j (hj : j < 4) (v : Value), (placeCells d nums k)[j]? = some v → w.cell? ⟨g, k * 4 + j, none⟩ = some v := fun j hj v hv => by
    have := h.cells (g := g) rfl (k * 4 + j) v (by rw [placesCells_get d nums n k j hk hj, hv])
    rw [addr_add] at this
    simpa using this
  exact ⟨g, cap, rfl, hg, hc 0 (by omega) _ rfl, hc 1 (by omega) _ rfl, hc 2 (by omega) _ rfl, hc 3 (by omega) _ rfl⟩

theorem pls_of {w : World} {base N c r : Nat} {A : Option Addr} {nums : List Nat} {e : TypeId} (h : w.ownsRow base e 4 (.slice A N c) N (placesCells r nums N)) : Pls w A N (pX r nums) (pY r nums) := by
  by_cases hN : N = 0
  · exact Or.inl hN
  · obtain ⟨g, cap, hv, hg, -⟩ := own_place h 0 (by omega)
    injection hv with hA
    subst hA
    refine Or.inr ⟨g, rfl, hg, fun k hk => ?_⟩
    obtain ⟨g', cap', hv', -, h0, h1, -⟩ := own_place h k hk
    injection hv' with hA
    injection hA with hA
    injection hA with hA
    subst hA
    exact ⟨h0, h1⟩

set_option maxRecDepth 100000 in
set_option maxHeartbeats 3000000 in
theorem sless_any (A A' : Option Addr) (N c N' c' : Nat) (X Y X' Y' : Nat → Nat) (hN : N ≤ 100000) (w : World) (h : Pls w A N X Y) (h' : Pls w A' N' X' Y') :
    Calls Try.prog 34 #[.slice A N c, .slice A' N' c'] w fun ex w' => ex = .returned (.bool (lessFrom X Y X' Y' N' N 0)) ∧ Below w.heap.size w w' := by
  have h2 := Lib.hid h
  have h2' := Lib.hid h'
  clear h h'
  go_enter Try.func34, Try.ntmps34
  go_wp2_with fail
  go_loopw [5] (fun i wr => ∃ k : Nat, k ≤ N ∧ k ≤ N' ∧ i = .int .i64 (k : Int) ∧ lessFrom X Y X' Y' N' (N - k) k = lessFrom X Y X' Y' N' N 0 ∧ Below w.heap.size w wr) (fun i _ => N - (intOf i).toNat)
  case atStart => exact ⟨0, Nat.zero_le _, Nat.zero_le _, rfl, rfl, Below.refl _ _⟩
  case round =>
    obtain ⟨k, hk, hk', rfl, heq, hb⟩ := hrel
    have heq' := Lib.hid heq
    clear heq
    by_cases hlt : k < N
    · by_cases hlt' : k < N'
      · have z1 : (k : Int) < (N : Int) := by omega
        have z2 : (k : Int) < (N' : Int) := by omega
        have z0 : (0 : Int) ≤ (k : Int) := by omega
        obtain ⟨g, rfl, hgz, hc⟩ : ∃ g, A = some ⟨g, 0, none⟩ ∧ g < w.heap.size ∧ ∀ k, k < N → w.cell? ⟨g, k * 4, none⟩ = some (fl (X k)) ∧ w.cell? ⟨g, k * 4 + 1, none⟩ = some (fl (Y k)) := by
          rcases h2.out with h | h
          · omega
          · exact h
        obtain ⟨g', rfl, hgz', hc'⟩ : ∃ g, A' = some ⟨g, 0, none⟩ ∧ g < w.heap.size ∧ ∀ k, k < N' → w.cell? ⟨g, k * 4, none⟩ = some (fl (X' k)) ∧ w.cell? ⟨g, k * 4 + 1, none⟩ = some (fl (Y' k)) := by
          rcases h2'.out with h | h
          · omega
          · exact h
        obtain ⟨c0, c1⟩ := hc k hlt
        obtain ⟨d0, d1⟩ := hc' k hlt'
        rw [← hb.cell hgz] at c0 c1
        rw [← hb.cell hgz'] at d0 d1
        clear hc hc' h2 h2'
        have hstep : Hid (lessFrom X Y X' Y' N' (N - k) k = (if dif (X k) (Y k) (X' k) (Y' k) = true then lxy (X k) (Y k) (X' k) (Y' k) else lessFrom X Y X' Y' N' (N - (k + 1)) (k + 1))) := by
          refine Lib.hid ?_
          obtain ⟨f, hf⟩ : ∃ f, N - k = f + 1 := ⟨N - k - 1, by omega⟩
          have hf2 : N - (k + 1) = f := by omega
          rw [hf, hf2]
          conv => lhs; unfold lessFrom
          rw [if_neg (by omega)]
        by_cases e1 : ne (X k) (X' k) = true
        · have hl : Hid (lessFrom X Y X' Y' N' N 0 = lt (X k) (X' k)) := by
            refine Lib.hid ?_
            rw [← heq'.out, hstep.out, if_pos (by unfold dif; rw [e1]; rfl)]
            unfold lxy
            rw [if_pos e1]
          have e1' : (FloatKind.f64.format.order (X k) (X' k) != some .eq) = true := e1
          clear e1
          go_wp2_with fail
          go_region_held3 (fun w' => w'.cell? ⟨g, k * 4, none⟩ = some (fl (X k)) ∧ w'.cell? ⟨g, k * 4 + 1, none⟩ = some (fl (Y k)) ∧ w'.cell? ⟨g', k * 4, none⟩ = some (fl (X' k)) ∧ w'.cell? ⟨g', k * 4 + 1, none⟩ = some (fl (Y' k))) (go_keep) (fail)
          go_wp2_with fail
          go_region_held3 (fun w' => w'.cell? ⟨g, k * 4, none⟩ = some (fl (X k)) ∧ w'.cell? ⟨g, k * 4 + 1, none⟩ = some (fl (Y k)) ∧ w'.cell? ⟨g', k * 4, none⟩ = some (fl (X' k)) ∧ w'.cell? ⟨g', k * 4 + 1, none⟩ = some (fl (Y' k))) (go_keep) (fail)
          go_wp2_with fail
          go_ret
          exact ⟨ret_bool hl.out.symm, hb.drew.drew⟩
        · have e1' : (FloatKind.f64.format.order (X k) (X' k) != some .eq) = false := by simpa [ne] using e1
          by_cases e2 : ne (Y k) (Y' k) = true
          · have hl : Hid (lessFrom X Y X' Y' N' N 0 = lt (Y k) (Y' k)) := by
              refine Lib.hid ?_
              rw [← heq'.out, hstep.out, if_pos (by unfold dif; rw [e2]; simp)]
              unfold lxy
              rw [if_neg e1]
            have e2' : (FloatKind.f64.format.order (Y k) (Y' k) != some .eq) = true := e2
            clear e1 e2
            go_wp2_with fail
            go_region_held3 (fun w' => w'.cell? ⟨g, k * 4, none⟩ = some (fl (X k)) ∧ w'.cell? ⟨g, k * 4 + 1, none⟩ = some (fl (Y k)) ∧ w'.cell? ⟨g', k * 4, none⟩ = some (fl (X' k)) ∧ w'.cell? ⟨g', k * 4 + 1, none⟩ = some (fl (Y' k))) (go_keep) (fail)
            go_wp2_with fail
            go_region_held3 (fun w' => w'.cell? ⟨g, k * 4, none⟩ = some (fl (X k)) ∧ w'.cell? ⟨g, k * 4 + 1, none⟩ = some (fl (Y k)) ∧ w'.cell? ⟨g', k * 4, none⟩ = some (fl (X' k)) ∧ w'.cell? ⟨g', k * 4 + 1, none⟩ = some (fl (Y' k))) (go_keep) (fail)
            go_wp2_with fail
            go_region_held3 (fun w' => w'.cell? ⟨g, k * 4, none⟩ = some (fl (X k)) ∧ w'.cell? ⟨g, k * 4 + 1, none⟩ = some (fl (Y k)) ∧ w'.cell? ⟨g', k * 4, none⟩ = some (fl (X' k)) ∧ w'.cell? ⟨g', k * 4 + 1, none⟩ = some (fl (Y' k))) (go_keep) (fail)
            go_wp2_with fail
            go_ret
            exact ⟨ret_bool hl.out.symm, hb.drew.drew.drew⟩
          · have hl : Hid (lessFrom X Y X' Y' N' (N - (k + 1)) (k + 1) = lessFrom X Y X' Y' N' N 0) := by
              refine Lib.hid ?_
              rw [← heq'.out, hstep.out, if_neg (by unfold dif; simpa using ⟨by simpa using e1, by simpa using e2⟩)]
            have e2' : (FloatKind.f64.format.order (Y k) (Y' k) != some .eq) = false := by simpa [ne] using e2
            clear e1 e2
            go_wp2_with fail
            go_region_held3 (fun w' => w'.cell? ⟨g, k * 4, none⟩ = some (fl (X k)) ∧ w'.cell? ⟨g, k * 4 + 1, none⟩ = some (fl (Y k)) ∧ w'.cell? ⟨g', k * 4, none⟩ = some (fl (X' k)) ∧ w'.cell? ⟨g', k * 4 + 1, none⟩ = some (fl (Y' k))) (go_keep) (fail)
            go_wp2_with fail
            go_region_held3 (fun w' => w'.cell? ⟨g, k * 4, none⟩ = some (fl (X k)) ∧ w'.cell? ⟨g, k * 4 + 1, none⟩ = some (fl (Y k)) ∧ w'.cell? ⟨g', k * 4, none⟩ = some (fl (X' k)) ∧ w'.cell? ⟨g', k * 4 + 1, none⟩ = some (fl (Y' k))) (go_keep) (fail)
            go_wp2_with fail
            go_roundw
            case rel => exact ⟨k + 1, by omega, by omega, by go_num, hl.out, hb.drew.drew⟩
            case measure => simp [intOf]; omega
      · have hl : Hid (lessFrom X Y X' Y' N' N 0 = true) := by
          refine Lib.hid ?_
          rw [← heq'.out]
          obtain ⟨f, hf⟩ : ∃ f, N - k = f + 1 := ⟨N - k - 1, by omega⟩
          rw [hf]
          unfold lessFrom
          rw [if_pos (by omega)]
        have z1 : (k : Int) < (N : Int) := by omega
        have z2 : ¬ (k : Int) < (N' : Int) := by omega
        have z3 : (N' : Int) < (N : Int) := by omega
        go_wp2_with fail
        go_ret
        exact ⟨ret_bool hl.out.symm, hb⟩
    · have hl : Hid (lessFrom X Y X' Y' N' N 0 = false) := by
        refine Lib.hid ?_
        rw [← heq'.out, show N - k = 0 from by omega]
        rfl
      have z1 : ¬ (k : Int) < (N : Int) := by omega
      have z3 : ¬ (N' : Int) < (N : Int) := by omega
      go_wp2_with fail
      go_ret
      exact ⟨ret_bool hl.out.symm, hb⟩
end Go.Proofs.Ytmdllkjlbalbpaa.Ls
