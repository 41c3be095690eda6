/-
  'spec.SameNums': whether two lists of numbers are one, bit by bit.
-/
import Derived.Test.YtmdllkjlbalbpaaPlaces
import Derived.Laws.Externs
import GoSem.Extern.MathFloatBits
namespace Go.Proofs.Ytmdllkjlbalbpaa.Same
open Go.ChangeShapes Go.WideShapes Go.ChangeAt Go.RowKit Go.Sort
open Pl
attribute [local irreducible] wpQuiet
attribute [local go_sem ↓] Go.wp_at_zero Go.wp_at_succ

theorem run_bits (x : Nat) (w : World) : (callFunc 74 #[.float .f64 x]).run Try.prog w = .ok (.value (.int .u64 (x : Int))) w := by
  have h : (callFunc 74 #[.float .f64 x]).run Try.prog w = ((Extern.MathFloatBits.float64bits #[.float .f64 x]).run Try.prog w).andThen fun v w' => .ok (.value v) w' :=
    run_callFunc_extern Try.func74 (by kernel_rfl) (by kernel_rfl) (by kernel_rfl) (by kernel_rfl) _ _
  rw [h]
  rfl
attribute [local go_sem ↓] run_bits

theorem ret_bool {a b : Bool} (h : a = b) : Ending.returned (.bool a) = .returned (.bool b) := by rw [h]

set_option maxRecDepth 100000 in
set_option maxHeartbeats 8000000 in
theorem same_any (A B : Option Addr) (n c m e : Nat) (xs ys : List Nat) (hx : xs.length = n) (hy : ys.length = m) (hn2 : n ≤ 1000000) (hm2 : m ≤ 1000000) (w : World) (hA : Row w w.heap.size A (xs.map fl)) (hB : Row w w.heap.size B (ys.map fl)) :
    Calls Try.prog 54 #[.slice A n c, .slice B m e] w fun ex w' => ex = .returned (.bool (decide (xs = ys))) ∧ Below w.heap.size w w' := by
  have hA' := Lib.hid hA
  have hB' := Lib.hid hB
  clear hA hB
  by_cases hnm : n = m
  · subst hnm
    go_enter Try.func54, Try.ntmps54
    go_wp2_with fail
    go_loopw [14] (fun i wr => ∃ k : Nat, k ≤ n ∧ i = .int .i64 (k : Int) ∧ (∀ j, j < k → gd xs j = gd ys j) ∧ Below w.heap.size w wr) (fun i _ => n - (intOf i).toNat)
    case atStart => exact ⟨0, Nat.zero_le _, rfl, fun j hj => absurd hj (Nat.not_lt_zero _), Below.refl _ _⟩
    case round =>
      obtain ⟨k, hk, rfl, heq, hb⟩ := hrel
      have heq' := Lib.hid heq
      clear heq
      by_cases hlt : k < n
      · obtain ⟨b, o, rfl, hbb, c0⟩ := row_num hA'.out (i := k) (by omega)
        obtain ⟨b2, o2, rfl, hbb2, d0⟩ := row_num hB'.out (i := k) (by omega)
        rw [← hb.cell hbb] at c0
        rw [← hb.cell hbb2] at d0
        have z1 : (k : Int) < (n : Int) := by omega
        have z2 : (0 : Int) ≤ (k : Int) := by omega
        have hbz : b2 < wr.heap.size := Nat.lt_of_lt_of_le hbb2 hb.size
        by_cases hg : gd xs k = gd ys k
        · have hg' := Lib.hid hg
          rw [hg] at c0
          have hx2 : ((gd ys k : Int) != (gd ys k : Int)) = false := by simp
          go_wp2_with fail
          refine region_reads (fun w' => w'.cell? ⟨b2, o2 + k, none⟩ = some (fl (gd ys k))) (fun d os => cell_regrown d0 d os) (by kernel_rfl) (by kernel_rfl) ?_
          intro W1 hz hS
          repeat (refine @quiet_cons _ _ _ _ _ _ _ _ rfl (fun K hK => ?_); go_simp; first | (refine hK _ ?_; clear hK K) | (apply Exists.intro; refine ⟨fun _ => ?_, hK _ ?_⟩; (fail); clear hK K))
          refine quiet_nil rfl ?_
          intro w3 hb3
          have hb4 := hb.trans (hb3.mono hb.size)
          clear hb3 hS hz c0 d0
          go_wp2_with fail
          go_roundw
          case rel =>
            refine ⟨k + 1, by omega, by go_num, fun j hj => ?_, hb4⟩
            by_cases hj' : j < k
            · exact heq'.out j hj'
            · have : j = k := by omega
              rw [this]; exact hg'.out
          case measure => simp [intOf]; omega
        · have hx2 : ((gd xs k : Int) != (gd ys k : Int)) = true := by simpa using (show ¬ (gd xs k : Int) = (gd ys k : Int) by omega)
          have hne : Hid (decide (xs = ys) = false) := Lib.hid (decide_eq_false fun h => hg (by rw [h]))
          clear hg
          go_wp2_with fail
          refine region_reads (fun w' => w'.cell? ⟨b2, o2 + k, none⟩ = some (fl (gd ys k))) (fun d os => cell_regrown d0 d os) (by kernel_rfl) (by kernel_rfl) ?_
          intro W1 hz hS
          repeat (refine @quiet_cons _ _ _ _ _ _ _ _ rfl (fun K hK => ?_); go_simp; first | (refine hK _ ?_; clear hK K) | (apply Exists.intro; refine ⟨fun _ => ?_, hK _ ?_⟩; (fail); clear hK K))
          refine quiet_nil rfl ?_
          intro w3 hb3
          have hb4 := hb.trans (hb3.mono hb.size)
          clear hb3 hS hz c0 d0
          go_wp2_with fail
          go_ret
          exact ⟨ret_bool hne.out.symm, hb4⟩
      · have hyes : Hid (decide (xs = ys) = true) := by
          refine Lib.hid (decide_eq_true (List.ext_getElem (by omega) fun j hj hj' => ?_))
          have := heq'.out j (by omega)
          unfold gd at this
          rw [List.getD_eq_getElem?_getD, List.getD_eq_getElem?_getD, List.getElem?_eq_getElem hj, List.getElem?_eq_getElem hj'] at this
          exact this
        have z1 : ¬ (k : Int) < (n : Int) := by omega
        go_wp2_with fail
        go_ret
        exact ⟨ret_bool hyes.out.symm, hb⟩
  · have hne : Hid (decide (xs = ys) = false) := by
      refine Lib.hid (decide_eq_false fun h => hnm ?_)
      rw [← hx, ← hy, h]
    have hb : ((n : Int) != (m : Int)) = true := by simpa using (show ¬ (n : Int) = (m : Int) by omega)
    go_enter Try.func54, Try.ntmps54
    go_wp2_with fail
    go_ret
    exact ⟨ret_bool hne.out.symm, Below.refl _ _⟩
end Go.Proofs.Ytmdllkjlbalbpaa.Same
