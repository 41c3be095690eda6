/-
  'eFits': whether envelopes have finite ends.
-/
import Derived.Test.YtmgomieffmbmiaaEnvFits
namespace Go.Proofs.Ytmgomieffmbmiaa.Ev
open Go.ChangeShapes Go.WideShapes Go.ChangeAt Go.RowKit Go.Sort
open Fi
attribute [local irreducible] wpQuiet
attribute [local go_sem ↓] Go.wp_at_zero Go.wp_at_succ

theorem ret_b {a b : Bool} (h : a = b) : Ending.returned (.bool a) = .returned (.bool b) := by rw [h]

/-- envelopes in a row -/
def Envs (w : World) (g n : Nat) (F : Nat → Bool) (X : Nat → Bx) : Prop :=
  ∀ k, k < n → w.cell? ⟨g, k * 5, none⟩ = some (.bool (F k)) ∧ w.cell? ⟨g, k * 5 + 1, none⟩ = some (fl (X k).a) ∧ w.cell? ⟨g, k * 5 + 2, none⟩ = some (fl (X k).b) ∧ w.cell? ⟨g, k * 5 + 3, none⟩ = some (fl (X k).c) ∧ w.cell? ⟨g, k * 5 + 4, none⟩ = some (fl (X k).d)

/-- whether an envelope's ends are finite -/
def okE (f : Bool) (x : Bx) : Prop := f = true → finB x.a x.b x.c x.d = true

set_option maxRecDepth 100000 in
set_option maxHeartbeats 3000000 in
theorem fits_all (g n : Nat) (hn : n ≤ 1000) (F : Nat → Bool) (X : Nat → Bx) (w : World) (hg : g < w.heap.size) (h : Envs w g n F X) :
    Calls Try.prog 9 #[.slice (some ⟨g, 0, none⟩) n n] w fun ex w' => (∃ b, ex = .returned (.bool b) ∧ (b = true → ∀ k, k < n → okE (F k) (X k))) ∧ Below w.heap.size w w' := by
  have h2 := Lib.hid h
  clear h
  go_enter Try.func9, Try.ntmps9
  go_wp2_with fail
  go_loopw [7] (fun i wr => ∃ k : Nat, k ≤ n ∧ i = .int .i64 (k : Int) ∧ (∀ j, j < k → okE (F j) (X j)) ∧ Below w.heap.size w wr) (fun i _ => n - (intOf i).toNat)
  case atStart => exact ⟨0, Nat.zero_le _, rfl, fun j hj => absurd hj (Nat.not_lt_zero _), Below.refl _ _⟩
  case round =>
    obtain ⟨k, hk, rfl, hall, hb⟩ := hrel
    have hall' := Lib.hid hall
    clear hall
    by_cases hlt : k < n
    · obtain ⟨c0, c1, c2, c3, c4⟩ := h2.out k hlt
      rw [← hb.cell (p := ⟨g, k * 5, none⟩) hg] at c0
      rw [← hb.cell (p := ⟨g, k * 5 + 1, none⟩) hg] at c1
      rw [← hb.cell (p := ⟨g, k * 5 + 2, none⟩) hg] at c2
      rw [← hb.cell (p := ⟨g, k * 5 + 3, none⟩) hg] at c3
      rw [← hb.cell (p := ⟨g, k * 5 + 4, none⟩) hg] at c4
      have z1 : (k : Int) < (n : Int) := by omega
      have z0 : (0 : Int) ≤ (k : Int) := by omega
      have hB := Lib.hid (finB_any (X k).a (X k).b (X k).c (X k).d)
      obtain ⟨f, hf⟩ : ∃ f, F k = f := ⟨_, rfl⟩
      obtain ⟨q, hq⟩ : ∃ q, finB (X k).a (X k).b (X k).c (X k).d = q := ⟨_, rfl⟩
      rw [hf] at c0
      rw [hq] at hB
      have hf' := Lib.hid hf
      have hq' := Lib.hid hq
      clear hf hq
      cases f
      · go_wp2_with fail
        go_roundw
        case rel =>
          refine ⟨k + 1, by omega, by go_num, fun j hj => ?_, by
            repeat with_reducible first | exact hb | exact Below.alloc hb hb.size _⟩
          by_cases hjk : j = k
          · subst hjk
            exact fun h => by rw [hf'.out] at h; cases h
          · exact hall'.out j (by omega)
        case measure => simp [intOf]; omega
      · cases q
        · go_wp2_with (first | (go_at_call 31; (with_reducible refine (hB.out _).mono ?_); rintro e w1 ⟨rfl, hb1⟩) | fail)
          go_ret
          exact ⟨⟨false, rfl, fun h => by cases h⟩, (hb.alloc hb.size _).trans (hb1.mono (by simp; exact Nat.le_succ_of_le hb.size))⟩
        · go_wp2_with (first | (go_at_call 31; (with_reducible refine (hB.out _).mono ?_); rintro e w1 ⟨rfl, hb1⟩) | fail)
          go_roundw
          case rel =>
            refine ⟨k + 1, by omega, by go_num, fun j hj => ?_, (hb.alloc hb.size _).trans (hb1.mono (by simp; exact Nat.le_succ_of_le hb.size))⟩
            by_cases hjk : j = k
            · subst hjk
              exact fun _ => hq'.out
            · exact hall'.out j (by omega)
          case measure => simp [intOf]; omega
    · have z1 : ¬ (k : Int) < (n : Int) := by omega
      go_wp2_with fail
      go_ret
      exact ⟨Or.inr ⟨rfl, fun j hj => hall'.out j (by omega)⟩, hb⟩
end Go.Proofs.Ytmgomieffmbmiaa.Ev
