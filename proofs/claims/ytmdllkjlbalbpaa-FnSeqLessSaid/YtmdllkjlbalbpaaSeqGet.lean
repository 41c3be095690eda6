/-
  'impl.SeqGet': a place of a line string's sequence; a panic of an index out of range is recovered.
-/
import Derived.Test.YtmdllkjlbalbpaaGetOut
import Derived.Test.YtmdllkjlbalbpaaGLine
import Derived.Defers
import Derived.Recover
import Derived.Laws.Pointers
namespace Go.Proofs.Ytmdllkjlbalbpaa.Sg
open Go.ChangeShapes Go.WideShapes Go.ChangeAt Go.RowKit Go.Sort
open Wd Pl Ln Sq Gt
attribute [local irreducible] wpQuiet
attribute [local go_sem ↓] Go.wp_at_zero Go.wp_at_succ

theorem kcells {B : Nat} {W w1 : World} (hb : Below B W w1) : ∀ b o, b < B → w1.cell? ⟨b, o, none⟩ = W.cell? ⟨b, o, none⟩ := fun b o h => hb.cell (p := ⟨b, o, none⟩) h
theorem kfrozs {B : Nat} {W w1 : World} (hb : Below B W w1) : ∀ b o, b < B → w1.frozen? ⟨b, o, none⟩ = W.frozen? ⟨b, o, none⟩ := fun b o h => hb.frozen (p := ⟨b, o, none⟩) h

theorem newline_any (r K c : Nat) (A : Option Addr) (w : World) : Calls Try.prog 71 #[.agg #[.int .u8 r, .slice A K c]] w fun ex w' => ex = .returned (.agg #[.int .u8 r, .slice A K c]) ∧ Below w.heap.size w w' := by
  go_enter Try.func71, Try.ntmps71
  go_wp2_with fail
  refine bodyPost_ret (v := .agg #[.int .u8 r, .slice A K c]) ?_ rfl ⟨rfl, by (repeat first | exact Below.refl _ _ | refine Below.drew ?_ | refine Below.setCell ?_ (by simp) _ | refine Below.alloc ?_ (by simp <;> omega) _)⟩
  refine results_cell1 rfl _ rfl ?_
  go_simp

theorem coordinates_any (r K c : Nat) (A : Option Addr) (w : World) : Calls Try.prog 52 #[.agg #[.int .u8 r, .slice A K c]] w fun ex w' => ex = .returned (.agg #[.int .u8 r, .slice A K c]) ∧ Below w.heap.size w w' := by
  go_enter Try.func52, Try.ntmps52
  go_wp2_with fail
  refine bodyPost_ret (v := .agg #[.int .u8 r, .slice A K c]) ?_ rfl ⟨rfl, by (repeat first | exact Below.refl _ _ | refine Below.drew ?_ | refine Below.setCell ?_ (by simp) _ | refine Below.alloc ?_ (by simp <;> omega) _)⟩
  refine results_cell1 rfl _ rfl ?_
  go_simp

set_option maxRecDepth 100000 in
set_option maxHeartbeats 8000000 in
theorem line_any (d : Int) (r : Nat) (hr : d % 4 = r) (A B : Option Addr) (n c m e : Nat) (nums : List Nat) (hn : nums.length = n) (hnc : n ≤ c) (hn2 : n ≤ 100000) (hA : A = none → c = 0) (w : World) (h : Row w w.heap.size A (nums.map fl)) :
    Calls Try.prog 51 #[.agg #[.int .i64 2, .int .i64 d, .slice A n c, .slice B m e]] w fun ex w' => ∃ g, w.heap.size ≤ g ∧ g < w'.heap.size ∧ ex = .returned (.agg #[.int .u8 r, .slice (some ⟨g, 0, none⟩) (n / wd r * wd r : Nat) (n / wd r * wd r : Nat)]) ∧
      w'.heap[g]? = some (.cells ((nums.take (n / wd r * wd r)).map fl).toArray 30 (0, 0)) ∧ Below w.heap.size w w' := by
  have hs := Lib.hid (fun w h => sequence_any d r hr A n c nums hn hnc hn2 hA w h)
  have h' := Lib.hid h
  clear h
  go_enter Try.func51, Try.ntmps51
  go_wp2_with (first | (go_at_call 72; refine (hs.out _ (h'.out.keep (by simp <;> omega) fun p hp => (Below.cell ((((Below.refl _ _).alloc (Nat.le_refl _) _).alloc (by simp) _)) hp))).mono ?_; rintro e w1 ⟨g, hg, rfl, hc, hb⟩; have k1 := kcells hb; have k2 := kfrozs hb) | (go_at_call 71; refine (newline_any _ _ _ _ _).mono ?_; rintro e w2 ⟨rfl, hb2⟩; have k3 := kcells (hb2.mono hb.size); have k4 := kfrozs (hb2.mono hb.size)) | fail)
  have hz : w.heap.size + 2 ≤ g := by simpa using hg
  have hlt : g < w1.heap.size := by
    obtain ⟨hlt, -⟩ := Array.getElem?_eq_some_iff.1 hc
    exact hlt
  have hs1 := hb.size
  have hs2 := hb2.size
  refine bodyPost_ret (v := .agg #[.int .u8 r, .slice (some ⟨g, 0, none⟩) (n / wd r * wd r) (n / wd r * wd r)]) ?_ rfl ⟨g, by omega, ?_, rfl, ?_, ?_⟩
  · refine results_cell1 rfl _ rfl ?_
    go_simp
  · simp
    omega
  · exact (Below.heap_setCell _ _ _ _ (by simp; omega)).trans ((Below.heap_setCell _ _ _ _ (by simp; omega)).trans ((hb2.block g hlt).trans hc))
  · exact (((((((Below.refl _ _).alloc (Nat.le_refl _) _).alloc (by simp) _)).trans (hb.mono (by simp <;> omega))).trans (hb2.mono (by simp at hs1; omega))).setCell (Nat.le_succ _) _).setCell (Nat.le_succ _) _

theorem catch_panicking (p q : Nat) (T : TypeId) (pv : Value) (older : List PanicEntry) (w : World) (v0 v1 v2 v3 v4 u0 : Value)
    (c0 : w.cell? ⟨p, 0, none⟩ = some v0) (c1 : w.cell? ⟨p, 1, none⟩ = some v1) (c2 : w.cell? ⟨p, 2, none⟩ = some v2) (c3 : w.cell? ⟨p, 3, none⟩ = some v3) (c4 : w.cell? ⟨p, 4, none⟩ = some v4) (d0 : w.cell? ⟨q, 0, none⟩ = some u0)
    (hf : ∀ j, w.frozen? ⟨p, j, none⟩ = false) (hg : ∀ j, w.frozen? ⟨q, j, none⟩ = false) (_ : p ≠ q) :
    CallsD Try.prog 50 #[.pointer (some ⟨p, 0, none⟩), .pointer (some ⟨q, 0, none⟩)] (.panicking ({ v := .iface T pv, recovered := false } :: older)) w fun e u' w' =>
      e = .returned (.tuple #[]) ∧ u' = .panicking ({ v := .iface T pv, recovered := true } :: older) ∧ w' = (((((w.setCell ⟨p, 0, none⟩ (fl 0)).setCell ⟨p, 1, none⟩ (fl 0)).setCell ⟨p, 2, none⟩ (fl 0)).setCell ⟨p, 3, none⟩ (fl 0)).setCell ⟨p, 4, none⟩ (.int .i64 0)).setCell ⟨q, 0, none⟩ (.bool false) := by
  refine callsD_of_wpS Try.func50 rfl fun c₀ cs hu => ?_
  apply wpS_seq
  apply wpS_region
  simp [wpOpsS, go_sem, recoverD, hu, Try.ntmps50, Exit.thenS]
  refine wpS_cond (t := true) (by simp [Act.eval, Array.replicate]) ?_
  simp only [if_true]
  apply wpS_region
  simp [wpOpsS, go_sem, c0, c1, c2, c3, c4, d0, hf, hg, bodyPostS, results, Try.results50]

theorem catch_idle (p q : Nat) (w : World) :
    CallsD Try.prog 50 #[.pointer (some ⟨p, 0, none⟩), .pointer (some ⟨q, 0, none⟩)] .returning w fun e u' w' => e = .returned (.tuple #[]) ∧ u' = .returning ∧ w' = w := by
  refine callsD_of_wpS Try.func50 rfl fun c₀ cs hu => ?_
  apply wpS_seq
  apply wpS_region
  simp [wpOpsS, go_sem, recoverD, hu, Try.ntmps50, Exit.thenS]
  refine wpS_cond (t := false) (by simp [Act.eval, Array.replicate]) ?_
  simp only [Bool.false_eq_true, if_false]
  refine wpS_of_wp (wp_skip ?_)
  cases c₀
  simp_all [bodyPostS, results, Try.results50]

theorem placeCells_take (d : Nat) (hd : d < 4) (nums : List Nat) (m i : Nat) (hi' : i < m) : placeCells d (nums.take (m * wd d)) i = placeCells d nums i := by
  have hw := wd_bd d
  have hb : i * wd d + wd d ≤ m * wd d := by
    rw [← Nat.succ_mul]; exact Nat.mul_le_mul_right _ hi'
  unfold placeCells pX pY pZ pM
  rw [gd_take (by omega), gd_take (by omega), gd_take (i := i * wd d + (wd d - 1)) (by omega)]
  by_cases h : d % 2 = 1
  · have := wd_idx d hd h
    rw [gd_take (i := i * wd d + 2) (by omega)]
  · simp [h]

theorem get_any (r : Nat) (hr : r < 4) (g n : Nat) (nums : List Nat) (hn : nums.length = n) (hn2 : n ≤ 100000) (k : Nat) (hk : k < n / wd r) (w : World) (hg : g < w.heap.size) (h : w.heap[g]? = some (.cells ((nums.take (n / wd r * wd r)).map fl).toArray 30 (0, 0))) :
    Calls Try.prog 53 #[.agg #[.int .u8 r, .slice (some ⟨g, 0, none⟩) (n / wd r * wd r : Nat) (n / wd r * wd r : Nat)], .int .i64 (k : Int)] w fun ex w' =>
      ex = .returned (.agg #[fl (pX r nums k), fl (pY r nums k), fl (pZ r nums k), fl (pM r nums k), .int .u8 r]) ∧ Below w.heap.size w w' := by
  have hp := placeCells_take r hr nums (n / wd r) k hk
  unfold placeCells at hp
  simp only [List.cons.injEq, and_true] at hp
  obtain ⟨p0, p1, p2, p3⟩ := hp
  rw [← p0, ← p1, ← p2, ← p3]
  have hl : (nums.take (n / wd r * wd r)).length = n / wd r * wd r := by have := Nat.div_mul_le_self n (wd r); simp; omega
  have hK : n / wd r * wd r ≤ 100000 := by have := Nat.div_mul_le_self n (wd r); omega
  have hkK : k < n / wd r * wd r / wd r := by rw [Nat.mul_div_cancel _ (by have := wd_bd r; omega)]; exact hk
  clear p0 p1 p2 p3 hk
  generalize nums.take (n / wd r * wd r) = xs at *
  generalize n / wd r * wd r = K at *
  have : r = 0 ∨ r = 1 ∨ r = 2 ∨ r = 3 := by omega
  rcases this with rfl | rfl | rfl | rfl
  · exact get_0 g K xs hl hK k hkK w hg h
  · exact get_1 g K xs hl hK k hkK w hg h
  · exact get_2 g K xs hl hK k hkK w hg h
  · exact get_3 g K xs hl hK k hkK w hg h

theorem u8_i64 (r : Nat) (hr : r < 4) : IntKind.i64.wrap (r : Int) = (r : Int) := by rw [IntKind.wrap_i64]; omega

set_option maxRecDepth 100000 in
set_option maxHeartbeats 8000000 in
theorem seqget_in (d : Int) (r : Nat) (hr : d % 4 = r) (A B : Option Addr) (n c m e : Nat) (nums : List Nat) (hn : nums.length = n) (hnc : n ≤ c) (hn2 : n ≤ 100000) (hA : A = none → c = 0) (k : Nat) (hk : k < n / wd r) (w : World) (h : Row w w.heap.size A (nums.map fl)) :
    Calls Try.prog 29 #[.agg #[.int .i64 2, .int .i64 d, .slice A n c, .slice B m e], .int .i64 (k : Int)] w fun ex w' =>
      ex = .returned (.tuple #[.agg #[fl (pX r nums k), fl (pY r nums k), fl (pZ r nums k), fl (pM r nums k), .int .i64 r], .bool true]) ∧ Below w.heap.size w w' := by
  have hr4 : r < 4 := by omega
  have hr' := u8_i64 r hr4
  have hL := Lib.hid (fun w h => line_any d r hr A B n c m e nums hn hnc hn2 hA w h)
  have hG := Lib.hid (fun g w hg h => get_any r hr4 g n nums hn hn2 k hk w hg h)
  have h' := Lib.hid h
  clear h
  have hmf : ∀ (fn : Fn) (first cap : Array Value) (w : World), (Instr.makeFunc fn first cap).run Try.prog w = .ok (.func fn first cap) w := fun _ _ _ _ => rfl
  go_enter_defers Try.func29, Try.ntmps29
  go_wp2_with (first | (go_at_call 51; refine (hL.out _ (h'.out.keep (by simp <;> omega) fun p hp => (Below.cell (B := w.heap.size) (by (repeat first | exact Below.refl _ _ | refine Below.drew ?_ | refine Below.setCell ?_ (by simp) _ | refine Below.alloc ?_ (by simp <;> omega) _)) hp))).mono ?_; rintro e w1 ⟨g, hg, hg2, rfl, hc, hb⟩; have k1 := kcells hb; have k2 := kfrozs hb; clear hL) | (go_at_call 52; refine (coordinates_any _ _ _ _ _).mono ?_; rintro e w2 ⟨rfl, hb2⟩; have k3 := kcells (hb2.mono hb.size); have k4 := kfrozs (hb2.mono hb.size); have hg3 : g < w2.heap.size := Nat.lt_of_lt_of_le hg2 hb2.size; have hc2 := Lib.hid ((hb2.block g hg2).trans hc); clear hc) | (go_at_call 53; refine (hG.out _ _ hg3 hc2.out).mono ?_; rintro e w3 ⟨rfl, hb3⟩; have k5 := kcells ((hb3.mono hb2.size).mono hb.size); have k6 := kfrozs ((hb3.mono hb2.size).mono hb.size); have hz3 : w.heap.size + 3 ≤ w3.heap.size := (by have z1 := hb.size; have z2 := hb2.size; have z3 := hb3.size; simp at z1; omega); have k7 := fun o => kcells ((Below.refl (w.heap.size + 3) w3).alloc hz3 o); have k8 := fun o => kfrozs ((Below.refl (w.heap.size + 3) w3).alloc hz3 o); clear hG) | fail)
  refine leaves_cons (f := 50) (args := #[.pointer (some ⟨w.heap.size + 1, 0, none⟩), .pointer (some ⟨w.heap.size + 1 + 1, 0, none⟩)]) (by simp) (by simp [go_sem]) ?_
  refine (catch_idle _ _ _).mono ?_
  rintro e u' w'' ⟨rfl, rfl, rfl⟩
  simp [Leaves, settle, results, Try.results29, go_sem, k1, k3, k5, k7]
  have hW : Below w.heap.size w w3 := by
    have z1 := hb.size
    have z2 := hb2.size
    simp at z1
    exact (((((((Below.refl _ _).alloc (Nat.le_refl _) _).alloc (by simp) _).alloc (by simp <;> omega) _)).trans (hb.mono (by simp <;> omega))).trans (hb2.mono (by omega))).trans (hb3.mono (by omega))
  repeat with_reducible first | exact hW | refine Below.setCell ?_ (by simp <;> omega) _ | exact Below.alloc hW (by omega) _

set_option maxRecDepth 100000 in
set_option maxHeartbeats 8000000 in
theorem seqget_out (d : Int) (r : Nat) (hr : d % 4 = r) (A B : Option Addr) (n c m e : Nat) (nums : List Nat) (hn : nums.length = n) (hnc : n ≤ c) (hn2 : n ≤ 100000) (hA : A = none → c = 0) (i : Int) (hi1 : -1000000 ≤ i) (hi2 : i ≤ 1000000) (hi : i < 0 ∨ ((n / wd r : Nat) : Int) ≤ i) (w : World) (h : Row w w.heap.size A (nums.map fl)) :
    Calls Try.prog 29 #[.agg #[.int .i64 2, .int .i64 d, .slice A n c, .slice B m e], .int .i64 i] w fun ex w' =>
      ex = .returned (.tuple #[.agg #[fl 0, fl 0, fl 0, fl 0, .int .i64 0], .bool false]) ∧ Below w.heap.size w w' := by
  have hr4 : r < 4 := by omega
  have hr' := u8_i64 r hr4
  have hL := Lib.hid (fun w h => line_any d r hr A B n c m e nums hn hnc hn2 hA w h)
  have hG := Lib.hid (fun g w => get_out r hr4 g (n / wd r * wd r) (Nat.mul_mod_left _ _) i hi1 hi2 (by rw [Nat.mul_div_cancel _ (by have := wd_bd r; omega)]; exact hi) w)
  have h' := Lib.hid h
  clear h
  have hmf : ∀ (fn : Fn) (first cap : Array Value) (w : World), (Instr.makeFunc fn first cap).run Try.prog w = .ok (.func fn first cap) w := fun _ _ _ _ => rfl
  go_enter_defers Try.func29, Try.ntmps29
  go_wp2_with (first | (go_at_call 51; refine (hL.out _ (h'.out.keep (by simp <;> omega) fun p hp => (Below.cell (B := w.heap.size) (by (repeat first | exact Below.refl _ _ | refine Below.drew ?_ | refine Below.setCell ?_ (by simp) _ | refine Below.alloc ?_ (by simp <;> omega) _)) hp))).mono ?_; rintro e w1 ⟨g, hg, hg2, rfl, hc, hb⟩; have k1 := kcells hb; have k2 := kfrozs hb; clear hL) | (go_at_call 52; refine (coordinates_any _ _ _ _ _).mono ?_; rintro e w2 ⟨rfl, hb2⟩; have k3 := kcells (hb2.mono hb.size); have k4 := kfrozs (hb2.mono hb.size); have hg3 : g < w2.heap.size := Nat.lt_of_lt_of_le hg2 hb2.size; have hc2 := Lib.hid ((hb2.block g hg2).trans hc); clear hc) | (go_at_call 53; refine (hG.out _ _).mono ?_; rintro e w3 ⟨⟨T, pv, rfl⟩, hb3⟩; have k5 := kcells ((hb3.mono hb2.size).mono hb.size); have k6 := kfrozs ((hb3.mono hb2.size).mono hb.size); have hz3 : w.heap.size + 3 ≤ w3.heap.size := (by have z1 := hb.size; have z2 := hb2.size; have z3 := hb3.size; simp at z1; omega); have k7 := fun o => kcells ((Below.refl (w.heap.size + 3) w3).alloc hz3 o); have k8 := fun o => kfrozs ((Below.refl (w.heap.size + 3) w3).alloc hz3 o); clear hG) | fail)
  have hW : Below w.heap.size w w3 := by
    have z1 := hb.size
    have z2 := hb2.size
    simp at z1
    exact (((((((Below.refl _ _).alloc (Nat.le_refl _) _).alloc (by simp) _).alloc (by simp <;> omega) _)).trans (hb.mono (by simp <;> omega))).trans (hb2.mono (by omega))).trans (hb3.mono (by omega))
  refine leaves_cons (f := 50) (args := #[.pointer (some ⟨w.heap.size + 1, 0, none⟩), .pointer (some ⟨w.heap.size + 1 + 1, 0, none⟩)]) (by simp) (by simp [go_sem]) ?_
  refine (catch_panicking (w.heap.size + 1) (w.heap.size + 1 + 1) T pv [] _ (fl 0) (fl 0) (fl 0) (fl 0) (.int .i64 0) (.bool false) (by go_simp) (by go_simp) (by go_simp) (by go_simp) (by go_simp) (by go_simp) (fun j => by go_simp) (fun j => by go_simp) (by omega)).mono ?_
  rintro e u' w'' ⟨rfl, rfl, rfl⟩
  simp [Leaves, settle, results, Try.results29, go_sem, k1, k3, k5]
  repeat with_reducible first | exact hW | refine Below.setCell ?_ (by simp <;> omega) _ | refine Below.alloc ?_ (by simp <;> omega) _
end Go.Proofs.Ytmdllkjlbalbpaa.Sg
