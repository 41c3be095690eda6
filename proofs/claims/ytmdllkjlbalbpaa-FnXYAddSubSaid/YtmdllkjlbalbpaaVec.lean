/-
  Contracts of the thin package's vector functions, and of the statements' test of whole places.
-/
import Derived.Test.YtmdllkjlbalbpaaWholeWalk
import Derived.Test.YtmdllkjlbalbpaaGeo
import Derived.Outline
namespace Go.Proofs.Ytmdllkjlbalbpaa.Vec
open Go.ChangeShapes Go.WideShapes Go.ChangeAt Go.RowKit Go.Sort
open Fl Geo Whole
attribute [local irreducible] wpQuiet

theorem plain_any (x y : Nat) (w : World) :
    Calls Try.prog 43 #[vec x y] w fun e w' => e = .returned (vec x y) ∧ Below w.heap.size w w' := by
  go_enter Try.func43, Try.ntmps43
  go_wp2
  refine bodyPost_ret (v := vec x y) (by simp [results, Try.results43, go_sem]) rfl ⟨rfl, ?_⟩
  exact (((Below.refl _ _).alloc (Nat.le_refl _) _).alloc (by simp) _)

theorem add_any (a b c d r s : Nat) (h1 : Ieee.double.add a c = some r) (h2 : Ieee.double.add b d = some s) (w : World) :
    Calls Try.prog 45 #[vec a b, vec c d] w fun e w' => e = .returned (vec r s) ∧ Below w.heap.size w w' := by
  have k1 := run_add h1
  have k2 := run_add h2
  clear h1 h2
  go_enter Try.func45, Try.ntmps45
  go_wp2
  refine bodyPost_ret (v := vec r s) (by simp [results, Try.results45, go_sem]) rfl ⟨rfl, ?_⟩
  exact ((((Below.refl _ _).alloc (Nat.le_refl _) _).alloc (by simp) _).alloc (by simp <;> omega) _)

theorem xyAdd_any (a b c d r s : Nat) (h1 : Ieee.double.add a c = some r) (h2 : Ieee.double.add b d = some s) (w : World) :
    Calls Try.prog 23 #[vec a b, vec c d] w fun e w' => e = .returned (vec r s) ∧ Below w.heap.size w w' := by
  go_enter Try.func23, Try.ntmps23
  go_wp2_with fail
  refine region_stages (by kernel_rfl) ?_
  refine stage_reads (m := 6) (fun w' => w'.cell? ⟨w.heap.size, 0, none⟩ = some (.float .f64 a) ∧ w'.cell? ⟨w.heap.size, 1, none⟩ = some (.float .f64 b) ∧
    w'.cell? ⟨w.heap.size + 1, 0, none⟩ = some (.float .f64 c) ∧ w'.cell? ⟨w.heap.size + 1, 1, none⟩ = some (.float .f64 d))
    (fun q os => ⟨cell_regrown (by go_simp) q os, cell_regrown (by go_simp) q os, cell_regrown (by go_simp) q os, cell_regrown (by go_simp) q os⟩) (by kernel_rfl) ⟨by decide, by decide⟩ ?_
  intro W1 hz hS
  simp only [forall_and] at hS
  obtain ⟨k1, k2, k3, k4⟩ := hS
  simp only [List.take_succ_cons, List.take_zero, List.drop_zero]
  repeat (refine @quiet_cons _ _ _ _ _ _ _ _ rfl (fun K hK => ?_); go_simp; first | (refine hK _ ?_; clear hK K) | (apply Exists.intro; refine ⟨fun _ => ?_, hK _ ?_⟩; (first | with_reducible exact Calls.regrown_of (xy_any a b _) | with_reducible exact Calls.regrown_of (xy_any c d _) | with_reducible exact Calls.regrown_of (add_any a b c d r s h1 h2 _) | with_reducible exact Calls.regrown_of (plain_any r s _)); clear hK K))
  refine quiet_nil rfl ?_
  intro w2 hb2
  clear k1 k2 k3 k4 hz
  have hz2 : w.heap.size + 1 + 1 < w2.heap.size := by have := hb2.size; simp at this; omega
  have k5 : w2.cell? ⟨w.heap.size + 1 + 1, 0, none⟩ = some (.float .f64 0) := kcell hb2 (by simp <;> omega) (by go_simp)
  have k6 : w2.cell? ⟨w.heap.size + 1 + 1, 1, none⟩ = some (.float .f64 0) := kcell hb2 (by simp <;> omega) (by go_simp)
  have f5 : w2.frozen? ⟨w.heap.size + 1 + 1, 0, none⟩ = false := kfroz hb2 (by simp <;> omega) (by go_simp)
  have f6 : w2.frozen? ⟨w.heap.size + 1 + 1, 1, none⟩ = false := kfroz hb2 (by simp <;> omega) (by go_simp)
  have hbb : Below w.heap.size w w2 := (((((Below.refl _ _).alloc (Nat.le_refl _) _).alloc (by simp) _).alloc (by simp <;> omega) _)).drew.trans (hb2.mono (by simp <;> omega))
  clear hb2
  refine stage_steps (m := 7) (by kernel_rfl) ⟨by decide, by decide⟩ ?_
  simp only [List.take_succ_cons, List.take_zero, List.drop_zero, List.drop_succ_cons]
  go_wp2_with fail
  refine stage_done rfl ?_
  go_wp2_with fail
  refine bodyPost_ret (v := vec r s) (by simp [results, Try.results23, go_sem, k5, k6]) rfl ⟨rfl, ?_⟩
  refine Below.setCell (Below.setCell hbb ?_ _) ?_ _ <;> (dsimp only; omega)
theorem xySub_any (a b c d r s : Nat) (h1 : Ieee.double.sub a c = some r) (h2 : Ieee.double.sub b d = some s) (w : World) :
    Calls Try.prog 22 #[vec a b, vec c d] w fun e w' => e = .returned (vec r s) ∧ Below w.heap.size w w' := by
  go_enter Try.func22, Try.ntmps22
  go_wp2_with fail
  refine region_stages (by kernel_rfl) ?_
  refine stage_reads (m := 6) (fun w' => w'.cell? ⟨w.heap.size, 0, none⟩ = some (.float .f64 a) ∧ w'.cell? ⟨w.heap.size, 1, none⟩ = some (.float .f64 b) ∧
    w'.cell? ⟨w.heap.size + 1, 0, none⟩ = some (.float .f64 c) ∧ w'.cell? ⟨w.heap.size + 1, 1, none⟩ = some (.float .f64 d))
    (fun q os => ⟨cell_regrown (by go_simp) q os, cell_regrown (by go_simp) q os, cell_regrown (by go_simp) q os, cell_regrown (by go_simp) q os⟩) (by kernel_rfl) ⟨by decide, by decide⟩ ?_
  intro W1 hz hS
  simp only [forall_and] at hS
  obtain ⟨k1, k2, k3, k4⟩ := hS
  simp only [List.take_succ_cons, List.take_zero, List.drop_zero]
  repeat (refine @quiet_cons _ _ _ _ _ _ _ _ rfl (fun K hK => ?_); go_simp; first | (refine hK _ ?_; clear hK K) | (apply Exists.intro; refine ⟨fun _ => ?_, hK _ ?_⟩; (first | with_reducible exact Calls.regrown_of (xy_any a b _) | with_reducible exact Calls.regrown_of (xy_any c d _) | with_reducible exact Calls.regrown_of (sub_any a b c d r s h1 h2 _) | with_reducible exact Calls.regrown_of (plain_any r s _)); clear hK K))
  refine quiet_nil rfl ?_
  intro w2 hb2
  clear k1 k2 k3 k4 hz
  have hz2 : w.heap.size + 1 + 1 < w2.heap.size := by have := hb2.size; simp at this; omega
  have k5 : w2.cell? ⟨w.heap.size + 1 + 1, 0, none⟩ = some (.float .f64 0) := kcell hb2 (by simp <;> omega) (by go_simp)
  have k6 : w2.cell? ⟨w.heap.size + 1 + 1, 1, none⟩ = some (.float .f64 0) := kcell hb2 (by simp <;> omega) (by go_simp)
  have f5 : w2.frozen? ⟨w.heap.size + 1 + 1, 0, none⟩ = false := kfroz hb2 (by simp <;> omega) (by go_simp)
  have f6 : w2.frozen? ⟨w.heap.size + 1 + 1, 1, none⟩ = false := kfroz hb2 (by simp <;> omega) (by go_simp)
  have hbb : Below w.heap.size w w2 := (((((Below.refl _ _).alloc (Nat.le_refl _) _).alloc (by simp) _).alloc (by simp <;> omega) _)).drew.trans (hb2.mono (by simp <;> omega))
  clear hb2
  refine stage_steps (m := 7) (by kernel_rfl) ⟨by decide, by decide⟩ ?_
  simp only [List.take_succ_cons, List.take_zero, List.drop_zero, List.drop_succ_cons]
  go_wp2_with fail
  refine stage_done rfl ?_
  go_wp2_with fail
  refine bodyPost_ret (v := vec r s) (by simp [results, Try.results22, go_sem, k5, k6]) rfl ⟨rfl, ?_⟩
  refine Below.setCell (Below.setCell hbb ?_ _) ?_ _ <;> (dsimp only; omega)
/-- a slice of places that reads as a list; it lies below block 'B' -/
def Vecs (w : World) (B : Nat) (A : Option Addr) (l : List (Nat × Nat)) : Prop :=
  l = [] ∨ ∃ b o, A = some ⟨b, o, none⟩ ∧ b < B ∧ ∀ j (h : j < l.length), w.cell? ⟨b, o + j * 2, none⟩ = some (.float .f64 l[j].1) ∧ w.cell? ⟨b, o + j * 2 + 1, none⟩ = some (.float .f64 l[j].2)

noncomputable def gw2 (p : Nat × Nat) : Bool := gw p.1 && gw p.2

theorem all_false {α : Type} {f : α → Bool} {l : List α} {k : Nat} (h : k < l.length) (hf : ¬ f l[k] = true) : l.all f = false := by
  rw [List.all_eq_false]; exact ⟨l[k], List.getElem_mem h, hf⟩
theorem all_snoc {α : Type} {f : α → Bool} {l : List α} {k : Nat} (h : k < l.length) (ht : (l.take k).all f = true) (hf : f l[k] = true) : (l.take (k + 1)).all f = true := by
  rw [List.take_succ_eq_append_getElem h, List.all_append, ht]; simp [hf]

set_option maxHeartbeats 2000000 in
theorem vWhole_any (A : Option Addr) (c : Nat) (l : List (Nat × Nat)) (hlen : l.length ≤ 9223372036854775807) (w : World) (hp : Vecs w w.heap.size A l) :
    Calls Try.prog 21 #[.slice A l.length c] w fun e w' => e = .returned (.bool (l.all gw2)) ∧ Below w.heap.size w w' := by
  go_enter Try.func21, Try.ntmps21
  go_wp2_with fail
  go_loopw [7] (fun i wr => ∃ k : Nat, k ≤ l.length ∧ i = .int .i64 k ∧ (l.take k).all gw2 = true ∧ Below w.heap.size w wr) (fun i _ => l.length - (intOf i).toNat)
  case atStart => exact ⟨0, Nat.zero_le _, rfl, by simp, Below.refl _ _⟩
  case round =>
    obtain ⟨k, hk, rfl, hall, hb⟩ := hrel
    by_cases hlt : k < l.length
    · rcases hp with rfl | ⟨b, o, rfl, hbb, hcell⟩
      · simp at hlt
      · have h1 := (hcell k hlt).1
        have h2 := (hcell k hlt).2
        rw [← hb.cell (p := ⟨b, _, none⟩) hbb] at h1 h2
        have hT := Lib.hid fun hf => all_snoc hlt hall hf
        have hF := Lib.hid fun hf => all_false (f := gw2) hlt hf
        generalize l[k] = q at *
        obtain ⟨x, y⟩ := q
        have c1 := Lib.hid fun w => gWhole_any x w
        have c2 := Lib.hid fun w => gWhole_any y w
        dsimp only at h1 h2
        have hz := hb.size
        clear hall hcell
        go_wp2_with fail
        refine (c1.out _).mono ?_
        rintro e w1 ⟨rfl, hb1⟩
        have k2 : w1.cell? ⟨wr.heap.size, 1, none⟩ = some (.float .f64 y) := kcell hb1 (by simp) (by go_simp)
        have hbb1 : Below w.heap.size w w1 := (hb.alloc hz _).trans (hb1.mono (by simp; omega))
        have hz1 := hb1.size
        clear hb1
        cases hx : gw x
        · go_wp2_with fail
          go_ret
          exact ⟨ret_bool (hF.out (by simp [gw2, hx])).symm, hbb1⟩
        · go_wp2_with fail
          refine (c2.out _).mono ?_
          rintro e w2 ⟨rfl, hb2⟩
          have hbb2 : Below w.heap.size w w2 := hbb1.trans (hb2.mono hbb1.size)
          clear hb2 hbb1
          cases hy : gw y
          · go_wp2_with fail
            go_ret
            exact ⟨ret_bool (hF.out (by simp [gw2, hx, hy])).symm, hbb2⟩
          · go_wp2_with fail
            go_roundw
            case rel => exact ⟨k + 1, by omega, by go_num, hT.out (by simp [gw2, hx, hy]), hbb2⟩
            case measure => simp [intOf]; omega
    · have hs : Hid (l.all gw2 = true) := by rw [List.take_of_length_le (by omega)] at hall; exact hall
      clear hall
      go_wp2_with fail
      go_ret
      exact ⟨ret_bool hs.out.symm, hb⟩
end Go.Proofs.Ytmdllkjlbalbpaa.Vec
