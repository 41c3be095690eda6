/-
  'impl.sequence', 'impl.line': a leaf's numbers as the package's own sequence.
-/
import Derived.Test.YtmdllkjlbalbpaaCoords
import Derived.Test.YtmdllkjlbalbpaaLine
import Derived.Laws.CopyOwn
import Derived.Deep.OwnRows
namespace Go.Proofs.Ytmdllkjlbalbpaa.Sq
open Go.ChangeShapes Go.WideShapes Go.ChangeAt Go.RowKit Go.Sort
open Wd Pl Ln
attribute [local irreducible] wpQuiet
attribute [local go_sem ↓] Go.wp_at_zero Go.wp_at_succ

theorem src_two {w w' : World} {A : Option Addr} {K c : Nat} {xs : List Value} (h : SrcAt w A K c 1 xs) (hp : 0 < K) (hb : Below w.heap.size w w') : ∃ ad, A = some ad ∧ ∀ j v, xs[j]? = some v → w'.cell? (ad.add j) = some v := by
  rcases h with ⟨-, h, -⟩ | ⟨ad, h1, -, h3⟩
  · omega
  · refine ⟨ad, h1, fun j v hv => ?_⟩
    have := h3 j v hv
    rw [← this]
    exact hb.cell (World.block_lt_of_cell? _ _ this)

theorem heap_new (w : World) (o : Obj) : (w.alloc o).heap[w.heap.size]? = some o := heap_alloc_new w o
theorem heap_new2 (w : World) (o o' : Obj) : ((w.alloc o).alloc o').heap[w.heap.size + 1]? = some o' := by
  have := heap_alloc_new (w.alloc o) o'
  simpa using this

set_option maxRecDepth 100000 in
theorem newseq_any (r : Nat) (hr4 : r < 4) (A : Option Addr) (K c : Nat) (hm : K % wd r = 0) (w : World) :
    Calls Try.prog 83 #[.slice A K c, .int .u8 r] w fun ex w' => ex = .returned (.agg #[.int .u8 r, .slice A K c]) ∧ Below w.heap.size w w' := by
  have hW := Lib.hid (fun w => dimension_any r hr4 w)
  have hwb := wd_bd r
  generalize wd r = W at *
  have q1 : ((W : Nat) : Int) ≠ 0 := by omega
  have q2 : ((W : Nat) : Int) ≠ -1 := by omega
  have q4 : (K : Int) % (W : Int) = 0 := by omega
  have q5 : (0 : Int) ≤ (K : Int) := by omega
  go_enter Try.func83, Try.ntmps83
  go_wp2_with (first | (go_at_call 73; refine (hW.out _).mono ?_; rintro e w' ⟨rfl, rfl⟩) | fail)
  refine bodyPost_ret (v := .agg #[.int .u8 r, .slice A K c]) ?_ rfl ⟨rfl, ((Below.refl _ _).alloc (Nat.le_refl _) _)⟩
  refine results_cell1 rfl _ rfl ?_
  go_simp

set_option maxRecDepth 100000 in
set_option maxHeartbeats 8000000 in
theorem sequence_any (d : Int) (r : Nat) (hr : d % 4 = r) (A : Option Addr) (n c : Nat) (nums : List Nat) (hn : nums.length = n) (hnc : n ≤ c) (hn2 : n ≤ 100000) (hA : A = none → c = 0) (w : World) (h : Row w w.heap.size A (nums.map fl)) :
    Calls Try.prog 72 #[.slice A n c, .int .i64 d] w fun ex w' => ∃ g, w.heap.size ≤ g ∧ ex = .returned (.agg #[.int .u8 r, .slice (some ⟨g, 0, none⟩) (n / wd r * wd r : Nat) (n / wd r * wd r : Nat)]) ∧
      w'.heap[g]? = some (.cells ((nums.take (n / wd r * wd r)).map fl).toArray 30 (0, 0)) ∧ Below w.heap.size w w' := by
  have h' := Lib.hid h
  clear h
  have hr4 : r < 4 := by omega
  have hW := Lib.hid (fun w => dimension_any r hr4 w)
  have hD := Lib.hid (fun w => dimOf_any d w)
  have hdr : (d % 4).toNat = r := by omega
  rw [hdr] at hD
  have hwb := wd_bd r
  have hsrc := Lib.hid (row_src h'.out hn hnc (n / wd r * wd r) (Nat.div_mul_le_self n _) hA)
  obtain ⟨K, hK⟩ : ∃ K, n / wd r * wd r = K := ⟨_, rfl⟩
  have hKn : K ≤ n := by rw [← hK]; exact Nat.div_mul_le_self n _
  have hmod : K % wd r = 0 := by rw [← hK]; exact Nat.mul_mod_left _ _
  have hN := Lib.hid (fun (A' : Option Addr) (c' : Nat) (w : World) => newseq_any r hr4 A' K c' hmod w)
  rw [hK] at hsrc ⊢
  generalize wd r = W at *
  have q1 : ((W : Nat) : Int) ≠ 0 := by omega
  have q2 : ((W : Nat) : Int) ≠ -1 := by omega
  have q0 : (0 : Int) ≤ (n : Int) := by omega
  have q3 : wrap64 ((n : Int) - (n : Int) % (W : Int)) = (K : Int) := by
    have e : (n : Int) - (n : Int) % (W : Int) = (K : Int) := by
      rw [← hK]
      have := Nat.div_add_mod n W
      have h2 : n / W * W + n % W = n := by rw [Nat.mul_comm]; exact this
      omega
    rw [e]
    exact IntWalk.wrap64_in _ (by omega)
  have q4 : (K : Int) % (W : Int) = 0 := by omega
  have q5 : (0 : Int) ≤ (K : Int) := by omega
  have q6 : (IntKind.i64.wrap (((K : Int)) % (W : Int)) != 0) = false := by rw [q4]; rfl
  clear hK hmod hA
  have hlen : (((nums.take K).map fl)).length = K := by simp; omega
  have hone : ∀ v ∈ (nums.take K).map fl, v.oneCell' = true := by
    intro v hv
    obtain ⟨x, -, rfl⟩ := List.mem_map.mp hv
    rfl
  generalize (nums.take K).map fl = cs at *
  have hmk := run_make_row' (P := Try.prog) 49 30 (.float .f64 0) 8 Try.underlying49 info_f64 rfl .i64 .i64 K (by omega) (by omega)
  go_enter Try.func72, Try.ntmps72
  go_wp2_with (first | (go_at_call 82; refine (hD.out _).mono ?_; rintro e w' ⟨rfl, rfl⟩) | (go_at_call 73; refine (hW.out _).mono ?_; rintro e w' ⟨rfl, rfl⟩) | (go_at_call 83; refine (hN.out _ _ _).mono ?_; rintro e w3 ⟨rfl, hb3⟩; have hs3 := hb3.size; have p0 := kcell hb3 (by omega) p0; have p1 := kcell hb3 (by omega) p1; have pf : ∀ j, w3.frozen? ⟨w.heap.size, j, none⟩ = false := (fun j => kfroz hb3 (by omega) (pf j)); have hg3 := Lib.hid ((hb3.block _ hz2).trans hg2.out); clear hg2) | (with_reducible refine wpList_copy_splice rfl (.tmp 20) (.tmp 21) 49 49 rfl 30 Try.underlying49 (by kernel_rfl) _ _ _ _ _ _ rfl rfl (w.heap.size + 1) 0 (madeCells #[.float .f64 0] K).toList 30 (heap_new2 w _ _) cs (by rw [hlen]; exact (Nat.min_eq_right hKn).symm) (fun hp => ⟨rfl, src_two hsrc.out (by omega) ((((Below.refl _ _).alloc (Nat.le_refl _) _).alloc (by simp) _))⟩) (by rw [hlen]; simp [madeCells]) hone (w.heap.size + 1) _ (Below.refl _ _) (Nat.le_refl _) ?_; intro w2 hg2 hb2; have p0 : w2.cell? ⟨w.heap.size, 0, none⟩ = some (.int .u8 0) := (hb2.cell (p := ⟨w.heap.size, 0, none⟩) (Nat.lt_succ_self _)).trans (by go_simp); have p1 : w2.cell? ⟨w.heap.size, 1, none⟩ = some (.slice none 0 0) := (hb2.cell (p := ⟨w.heap.size, 1, none⟩) (Nat.lt_succ_self _)).trans (by go_simp); have pf : ∀ j, w2.frozen? ⟨w.heap.size, j, none⟩ = false := (fun j => (hb2.frozen (p := ⟨w.heap.size, j, none⟩) (Nat.lt_succ_self _)).trans (by go_simp)); have hz2 : w.heap.size + 1 < w2.heap.size := (by have := hb2.size; simp at this; omega); have hb2 : Below w.heap.size w w2 := ((((Below.refl _ _).alloc (Nat.le_refl _) _).alloc (by simp) _)).trans (hb2.mono (Nat.le_succ _))) | fail)
  have e : (splice (madeCells #[Value.float .f64 0] K).toList 0 cs) = cs := by
    simp [splice, size_madeCells, hlen]
  have hg4 := hg3.out
  rw [e] at hg4
  refine bodyPost_ret (v := .agg #[.int .u8 r, .slice (some ⟨w.heap.size + 1, 0, none⟩) K K]) ?_ rfl ⟨w.heap.size + 1, by omega, rfl, ?_, ?_⟩
  · refine results_cell1 rfl _ rfl ?_
    go_simp
  · exact (Below.heap_setCell _ _ _ _ (by simp)).trans ((Below.heap_setCell _ _ _ _ (by simp)).trans hg4)
  · exact ((hb2.trans (hb3.mono (by omega))).setCell (Nat.le_refl _) _).setCell (Nat.le_refl _) _
end Go.Proofs.Ytmdllkjlbalbpaa.Sq
