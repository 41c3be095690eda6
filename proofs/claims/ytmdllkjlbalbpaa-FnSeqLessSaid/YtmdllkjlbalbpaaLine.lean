/-
  'spec.New' of a line string, 'gLine': the places of a small line string.
-/
import Derived.Test.YtmdllkjlbalbpaaPlaces
import Derived.Deep.Onto
namespace Go.Proofs.Ytmdllkjlbalbpaa.Ln
open Go.ChangeShapes Go.WideShapes Go.ChangeAt Go.RowKit Go.Sort
open Wd Pl
attribute [local irreducible] wpQuiet
attribute [local go_sem ↓] Go.wp_at_zero Go.wp_at_succ

theorem info_f64 : (Try.prog.info? 30).map (fun i => (i.zero, i.size, i.bytes)) = some (some (.float .f64 0), 1, 8) := by kernel_rfl

theorem leaf_any (w : World) : Calls Try.prog 67 #[.int .i64 2] w fun e w' => e = .returned (.bool true) ∧ w = w' := by
  go_enter Try.func67, Try.ntmps67
  go_wp2_with fail
  go_ret
  exact ⟨rfl, rfl⟩

theorem row_src {w : World} {BB n c : Nat} {A : Option Addr} {nums : List Nat} (h : Row w BB A (nums.map fl)) (hn : nums.length = n) (hnc : n ≤ c) (k : Nat) (hk : k ≤ n) (hA : A = none → c = 0) : SrcAt w A k c 1 ((nums.take k).map fl) := by
  cases A with
  | none =>
    have := hA rfl
    exact Or.inl ⟨rfl, by omega, this, by simp; right; apply List.eq_nil_of_length_eq_zero; omega⟩
  | some ad =>
    refine Or.inr ⟨ad, rfl, by simp; omega, fun j u hu => ?_⟩
    have hj : j < k := by have := (List.getElem?_eq_some_iff.mp hu).1; simp at this; omega
    obtain ⟨b, o, e, -, hc⟩ := row_num h (i := j) (by omega)
    injection e with e
    subst e
    rw [addr_add, hc]
    simp only [List.getElem?_map, List.getElem?_take_of_lt hj] at hu
    rw [← hu, List.getElem?_eq_getElem (by omega)]
    simp [gd, List.getD_eq_getElem?_getD, List.getElem?_eq_getElem (show j < nums.length by omega)]

theorem own_slice {w : World} {base n size : Nat} {e : TypeId} {v : Value} {xs : List Value} (h : w.ownsRow base e size v n xs) : ∃ A c, v = .slice A n c := by
  rcases h.2 with ⟨rfl, rfl⟩ | ⟨g, cap, cur, rfl, _⟩
  · exact ⟨none, 0, rfl⟩
  · exact ⟨_, _, rfl⟩

set_option maxRecDepth 100000 in
set_option maxHeartbeats 8000000 in
theorem new_line (d : Int) (r : Nat) (hr0 : d % 4 = r) (A B : Option Addr) (n c m e : Nat) (nums : List Nat) (hn : nums.length = n) (hnc : n ≤ c) (hn2 : n ≤ 100000) (hA : A = none → c = 0) (w : World) (h : Row w w.heap.size A (nums.map fl)) :
    Calls Try.prog 48 #[.agg #[.int .i64 2, .int .i64 d, .slice A n c, .slice B m e]] w fun ex w' => ∃ v, ex = .returned (.agg #[.int .i64 2, .int .i64 r, v, .slice none 0 0]) ∧
      w'.ownsRow w.heap.size 30 1 v (n / wd r * wd r) ((nums.take (n / wd r * wd r)).map fl) ∧ Below w.heap.size w w' := by
  obtain ⟨i0, hi0, hz0, hz1, hz2⟩ := info_parts info_f64
  have h' := Lib.hid h
  clear h
  have hr4 : r < 4 := by omega
  have hW := Lib.hid (fun w => width_any r hr4 w)
  have hwb := wd_bd r
  generalize wd r = W at *
  have q1 : ((W : Nat) : Int) ≠ 0 := by omega
  have q2 : ((W : Nat) : Int) ≠ -1 := by omega
  obtain ⟨Q, hQ⟩ : ∃ Q, n / W = Q := ⟨_, rfl⟩
  have q3 : Hid (wrap64 ((n : Int) / (W : Int)) = (Q : Int)) := by
    have e : (n : Int) / (W : Int) = (Q : Int) := by rw [← hQ]; rfl
    have : Q ≤ n := by rw [← hQ]; exact Nat.div_le_self n W
    rw [e]
    exact IntWalk.wrap64_in _ (by omega)
  rw [hQ]
  obtain ⟨K, hK⟩ : ∃ K, Q * W = K := ⟨_, rfl⟩
  have hKn : K ≤ n := by rw [← hK, ← hQ]; exact Nat.div_mul_le_self n W
  have q4 : Hid (IntKind.i64.wrap ((Q : Int) * (W : Int)) = (K : Int)) := by
    have e : (Q : Int) * (W : Int) = (K : Int) := by rw [← hK]; simp
    refine Lib.hid ?_
    rw [e, IntKind.wrap_i64]; omega
  rw [hK]
  have hsrc := Lib.hid (row_src h'.out hn hnc K hKn hA)
  clear hQ hK hA
  have ha : bits .and .i64 d 3 = (r : Int) := by rw [and3, hr0]
  go_enter Try.func48, Try.ntmps48
  go_wp2_with (first | (go_at_call 67; refine (leaf_any _).mono ?_; rintro e w' ⟨rfl, rfl⟩))
  obtain ⟨W1, hW1⟩ : ∃ W1, W1 = (((w.alloc (.cells #[.int .i64 2, .int .i64 d, .slice A n c, .slice B m e] 52)).alloc (.cells #[.int .i64 0, .int .i64 0, .slice none 0 0, .slice none 0 0] 52)).alloc (.cells #[.int .i64 2, .int .i64 r, .slice none 0 0, .slice none 0 0] 52)) := ⟨_, rfl⟩
  rw [← hW1]
  have hs : W1.heap.size = w.heap.size + 1 + 1 + 1 := by rw [hW1]; simp
  have hb1 : Below w.heap.size w W1 := by rw [hW1]; exact ((((Below.refl _ _).alloc (Nat.le_refl _) _).alloc (by simp) _).alloc (by simp <;> omega) _)
  have c0 : W1.cell? ⟨w.heap.size, 2, none⟩ = some (.slice A n c) := by rw [hW1]; go_simp
  have c1 : W1.cell? ⟨w.heap.size + 1 + 1, 1, none⟩ = some (.int .i64 r) := by rw [hW1]; go_simp
  have c2 : W1.cell? ⟨w.heap.size + 1 + 1, 0, none⟩ = some (.int .i64 2) := by rw [hW1]; go_simp
  have c3 : W1.cell? ⟨w.heap.size + 1 + 1, 2, none⟩ = some (.slice none 0 0) := by rw [hW1]; go_simp
  have c4 : W1.cell? ⟨w.heap.size + 1 + 1, 3, none⟩ = some (.slice none 0 0) := by rw [hW1]; go_simp
  have f0 : ∀ j, W1.frozen? ⟨w.heap.size + 1 + 1, j, none⟩ = false := by intro j; rw [hW1]; go_simp
  have m0 : W1.cell? ⟨w.heap.size + 1, 0, none⟩ = some (.int .i64 0) := by rw [hW1]; go_simp
  have m1 : W1.cell? ⟨w.heap.size + 1, 1, none⟩ = some (.int .i64 0) := by rw [hW1]; go_simp
  have m2 : W1.cell? ⟨w.heap.size + 1, 2, none⟩ = some (.slice none 0 0) := by rw [hW1]; go_simp
  have m3 : W1.cell? ⟨w.heap.size + 1, 3, none⟩ = some (.slice none 0 0) := by rw [hW1]; go_simp
  have mf : ∀ j, W1.frozen? ⟨w.heap.size + 1, j, none⟩ = false := by intro j; rw [hW1]; go_simp
  have mm := Lib.hid (And.intro m0 (And.intro m1 (And.intro m2 (And.intro m3 mf))))
  clear hW1 ha m0 m1 m2 m3 mf
  go_region_held (fun w' => w'.cell? ⟨w.heap.size, 2, none⟩ = some (.slice A n c) ∧ w'.cell? ⟨w.heap.size + 1 + 1, 1, none⟩ = some (.int .i64 (r : Int))) (go_keep) (first | (go_at_call 68; refine (hW.out _).mono ?_; rintro e w' ⟨rfl, rfl⟩))
  go_wp2_with fail
  rw [q3.out]
  have hs2 : W1.drew.heap.size = w.heap.size + 1 + 1 + 1 := hs
  have hb2 : Below w.heap.size w W1.drew := hb1.drew
  have d0 : W1.drew.cell? ⟨w.heap.size, 2, none⟩ = some (.slice A n c) := c0
  have d1 : W1.drew.cell? ⟨w.heap.size + 1 + 1, 1, none⟩ = some (.int .i64 r) := c1
  have d2 : W1.drew.cell? ⟨w.heap.size + 1 + 1, 0, none⟩ = some (.int .i64 2) := c2
  have d3 : W1.drew.cell? ⟨w.heap.size + 1 + 1, 2, none⟩ = some (.slice none 0 0) := c3
  have d4 : W1.drew.cell? ⟨w.heap.size + 1 + 1, 3, none⟩ = some (.slice none 0 0) := c4
  have g0 : ∀ j, W1.drew.frozen? ⟨w.heap.size + 1 + 1, j, none⟩ = false := f0
  have mm2 := Lib.hid (show W1.drew.cell? ⟨w.heap.size + 1, 0, none⟩ = some (.int .i64 0) ∧ W1.drew.cell? ⟨w.heap.size + 1, 1, none⟩ = some (.int .i64 0) ∧ W1.drew.cell? ⟨w.heap.size + 1, 2, none⟩ = some (.slice none 0 0) ∧ W1.drew.cell? ⟨w.heap.size + 1, 3, none⟩ = some (.slice none 0 0) ∧ ∀ j, W1.drew.frozen? ⟨w.heap.size + 1, j, none⟩ = false from mm.out)
  generalize W1.drew = W2 at *
  clear mm hs hb1 c0 c1 c2 c3 c4 f0 W1
  have k1 : (0 : Int) ≤ (K : Int) := by omega
  have k2 : (K : Int) ≤ (c : Int) := by omega
  have k3 : (K : Int) ≤ (n : Int) := by omega
  have q5 := q4.out
  have cW := Lib.hid (fun w => (hW.out w).mono (show ∀ e w', (e = Ending.returned (Value.int .i64 (W : Int)) ∧ w = w') → (e = Ending.returned (Value.int .i64 (W : Int)) ∧ Below w.heap.size w w') from fun e w' h => ⟨h.1, h.2 ▸ Below.refl _ _⟩))
  refine region_stages (by kernel_rfl) ?_
  refine stage_reads (m := 10) (fun w' => w'.cell? ⟨w.heap.size, 2, none⟩ = some (.slice A n c) ∧ w'.cell? ⟨w.heap.size + 1 + 1, 1, none⟩ = some (.int .i64 (r : Int)) ∧ w'.cell? ⟨w.heap.size + 1 + 1, 2, none⟩ = some (.slice none 0 0))
    (fun d os => ⟨cell_regrown d0 d os, cell_regrown d1 d os, cell_regrown d3 d os⟩) (by kernel_rfl) ⟨by decide, by decide⟩ ?_
  intro W3 hz3 hS
  simp only [forall_and] at hS
  obtain ⟨e0, e1, e3⟩ := hS
  simp only [List.take_succ_cons, List.take_zero, List.drop_zero]
  repeat (refine @quiet_cons _ _ _ _ _ _ _ _ rfl (fun K hK => ?_); go_simp; first | (refine hK _ ?_; clear hK K) | (apply Exists.intro; refine ⟨fun _ => ?_, hK _ ?_⟩; (with_reducible exact Calls.regrown_of (cW.out _)); clear hK K))
  refine quiet_nil rfl ?_
  intro w4 hb4
  have hb4' : Below W2.heap.size W2 w4 := ⟨hb4.os, hb4.tape, hb4.output, hb4.size, hb4.block⟩
  have hs4 := hb4'.size
  have p2 := kcell hb4' (by omega) d2
  have p1 := kcell hb4' (by omega) d1
  have p4 := kcell hb4' (by omega) d4
  have pe := kcell hb4' (by omega) d3
  have pf : ∀ j, w4.frozen? ⟨w.heap.size + 1 + 1, j, none⟩ = false := fun j => kfroz hb4' (by omega) (g0 j)
  obtain ⟨x0, x1, x2, x3, xf⟩ := mm2.out
  have x0 := kcell hb4' (by omega) x0
  have x1 := kcell hb4' (by omega) x1
  have x2 := kcell hb4' (by omega) x2
  have x3 := kcell hb4' (by omega) x3
  have xf : ∀ j, w4.frozen? ⟨w.heap.size + 1, j, none⟩ = false := fun j => kfroz hb4' (by omega) (xf j)
  clear mm2
  have hbb : Below w.heap.size w w4 := hb2.trans (hb4'.mono (by omega))
  have hsrc4 : Hid (SrcAt w4 A K c 1 ((nums.take K).map fl)) := by
    rcases hsrc.out with h | ⟨ad, h1, h2, h3⟩
    · exact Or.inl h
    · refine Or.inr ⟨ad, h1, h2, fun j u hj => ?_⟩
      have := h3 j u hj
      rw [← this]
      exact hbb.cell (World.block_lt_of_cell? _ _ this)
  have hbz4 := hbb.size
  clear hb4 hb4' e0 e1 e3 hz3 W3 d0 d1 d2 d3 d4 g0 hb2 q1 q2 q3 q4 q5 hsrc cW hW
  refine stage_steps (m := 13) (by kernel_rfl) ⟨by decide, by decide⟩ ?_
  simp only [List.take_succ_cons, List.take_zero, List.drop_zero, List.drop_succ_cons]
  go_wp2_with (at_builtin; go_must (refine wpList_append_src rfl _ _ _ rfl w4.heap.size 30 i0 (.float .f64 0) 1 8 Try.underlying49 hi0 hz0 hz1 hz2 rfl (by omega) _ 0 [] rfl ⟨rfl, Or.inl ⟨rfl, rfl⟩⟩ A K c ((nums.take K).map fl) rfl hsrc4.out (by intro u hu; simp only [List.mem_map] at hu; obtain ⟨x, -, rfl⟩ := hu; rfl) (by unfold maxLen; omega) (by omega) (Nat.le_refl _) ?_); intro v w5 hown5 hb5 _; rw [Nat.zero_add, List.nil_append] at hown5; obtain ⟨A', c', rfl⟩ := own_slice hown5; have r1 := kcell hb5 (by omega) p1; have r2 := kcell hb5 (by omega) p2; have r4 := kcell hb5 (by omega) p4; have re := kcell hb5 (by omega) pe; have s0 := kcell hb5 (by omega) x0; have s1 := kcell hb5 (by omega) x1; have s2 := kcell hb5 (by omega) x2; have s3 := kcell hb5 (by omega) x3; have sf : ∀ j, w5.frozen? ⟨w.heap.size + 1, j, none⟩ = false := fun j => kfroz hb5 (by omega) (xf j); have rf : w5.frozen? ⟨w.heap.size + 1 + 1, 2, none⟩ = false := kfroz hb5 (by omega) (pf 2); have hown' := Lib.hid hown5; have hb5' := Lib.hid hb5; clear hown5 hb5 p1 p2 p4 pe pf x0 x1 x2 x3 xf)
  refine stage_done rfl ?_
  go_wp2_with fail
  refine bodyPost_ret (v := .agg #[.int .i64 2, .int .i64 r, .slice A' K c', .slice none 0 0]) ?_ rfl ⟨_, rfl, ?_, ?_⟩
  · refine results_cell1 rfl _ rfl ?_
    go_simp
  · refine World.ownsRow.mono (base := w4.heap.size) ?_ hbz4
    have l1 : w.heap.size + 1 < w4.heap.size := by omega
    have l2 : w.heap.size + 1 + 1 < w4.heap.size := by omega
    exact ownsRow_setCell_below (ownsRow_setCell_below (ownsRow_setCell_below (ownsRow_setCell_below (ownsRow_setCell_below hown'.out l2 _) l1 _) l1 _) l1 _) l1 _
  · have l1 : w.heap.size ≤ w.heap.size + 1 := by omega
    have l2 : w.heap.size ≤ w.heap.size + 1 + 1 := by omega
    exact (((((hbb.trans (hb5'.out.mono hbz4)).setCell (p := ⟨w.heap.size + 1 + 1, _, none⟩) l2 _).setCell (p := ⟨w.heap.size + 1, _, none⟩) l1 _).setCell (p := ⟨w.heap.size + 1, _, none⟩) l1 _).setCell (p := ⟨w.heap.size + 1, _, none⟩) l1 _).setCell (p := ⟨w.heap.size + 1, _, none⟩) l1 _
end Go.Proofs.Ytmdllkjlbalbpaa.Ln
