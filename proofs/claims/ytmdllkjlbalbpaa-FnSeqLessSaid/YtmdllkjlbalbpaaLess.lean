/-
  The order of sequences: 'Length', 'GetXY', 'XY.Less', '!=' of places.
-/
import Derived.Test.YtmdllkjlbalbpaaSeqGet
namespace Go.Proofs.Ytmdllkjlbalbpaa.Ls
open Go.ChangeShapes Go.WideShapes Go.ChangeAt Go.RowKit Go.Sort
open Wd Pl Ln Sq Gt Sg Same
attribute [local irreducible] wpQuiet
attribute [local go_sem ↓] Go.wp_at_zero Go.wp_at_succ

def lt (a b : Nat) : Bool := (FloatKind.f64.format.order a b == some .lt)
def ne (a b : Nat) : Bool := (FloatKind.f64.format.order a b != some .eq)
/-- by X, then Y -/
def lxy (a b c d : Nat) : Bool := if ne a c = true then lt a c else lt b d

set_option maxRecDepth 100000 in
theorem length_any (r : Nat) (hr : r < 4) (A : Option Addr) (K c : Nat) (hK : K ≤ 100000) (w : World) :
    Calls Try.prog 84 #[.agg #[.int .u8 r, .slice A K c]] w fun ex w' => ex = .returned (.int .i64 (K / wd r : Nat)) ∧ Below w.heap.size w w' := by
  have hW := Lib.hid (fun w => dimension_any r hr w)
  have hwb := wd_bd r
  generalize wd r = W at *
  have q1 : ((W : Nat) : Int) ≠ 0 := by omega
  have q2 : ((W : Nat) : Int) ≠ -1 := by omega
  have q3 : wrap64 ((K : Int) / (W : Int)) = (K : Int) / (W : Int) := by
    have : K / W ≤ K := Nat.div_le_self K W
    obtain ⟨Q, hQ⟩ : ∃ Q, K / W = Q := ⟨_, rfl⟩
    have e : (K : Int) / (W : Int) = (Q : Int) := by rw [← hQ]; rfl
    rw [e]
    exact IntWalk.wrap64_in _ (by omega)
  go_enter Try.func84, Try.ntmps84
  go_wp2_with (first | (go_at_call 73; refine (hW.out _).mono ?_; rintro e w' ⟨rfl, rfl⟩) | fail)
  go_region_held (fun w' => w'.cell? ⟨w.heap.size, 0, none⟩ = some (.int .u8 r) ∧ w'.cell? ⟨w.heap.size, 1, none⟩ = some (.slice A K c)) (go_keep) (first | (go_at_call 73; refine (hW.out _).mono ?_; rintro e w' ⟨rfl, rfl⟩))
  go_wp2_with fail
  go_ret
  exact ⟨rfl, by (repeat first | exact Below.refl _ _ | refine Below.drew ?_ | refine Below.setCell ?_ (by simp) _ | refine Below.alloc ?_ (by simp <;> omega) _)⟩

set_option maxRecDepth 100000 in
set_option maxHeartbeats 8000000 in
theorem getxy_any (r : Nat) (hr : r < 4) (g K : Nat) (nums : List Nat) (hK : nums.length = K) (hK2 : K ≤ 100000) (k : Nat) (hk : k < K / wd r) (w : World) (hg : g < w.heap.size) (h : w.heap[g]? = some (.cells (nums.map fl).toArray 30 (0, 0))) :
    Calls Try.prog 85 #[.agg #[.int .u8 r, .slice (some ⟨g, 0, none⟩) K K], .int .i64 (k : Int)] w fun ex w' =>
      ex = .returned (.agg #[fl (pX r nums k), fl (pY r nums k)]) ∧ Below w.heap.size w w' := by
  have hW := Lib.hid (fun w => dimension_any r hr w)
  have hwb := wd_bd r
  obtain ⟨m, hm⟩ : ∃ m, k * wd r = m := ⟨_, rfl⟩
  have hmK : m + wd r ≤ K := by
    have := Nat.div_mul_le_self K (wd r)
    have h2 : (k + 1) * wd r ≤ K / wd r * wd r := Nat.mul_le_mul_right _ hk
    rw [Nat.add_mul, hm] at h2
    omega
  have c0 := num_at h m (by omega)
  have c1 := num_at h (m + 1) (by omega)
  have hp : Hid (pX r nums k = gd nums m ∧ pY r nums k = gd nums (m + 1)) := by
    refine Lib.hid ?_
    unfold pX pY
    rw [hm]
    exact ⟨rfl, rfl⟩
  have q0 : IntKind.i64.wrap ((k : Int) * (wd r : Int)) = (m : Int) := by
    have : (k : Int) * (wd r : Int) = (m : Int) := by rw [← hm]; simp
    rw [this, IntKind.wrap_i64]; omega
  generalize wd r = W at *
  clear h
  have q1 : IntKind.i64.wrap ((m : Int) + 1) = (m : Int) + 1 := by rw [IntKind.wrap_i64]; omega
  have y0 : (m : Int) < (K : Int) := by omega
  have y1 : (m : Int) + 1 < (K : Int) := by omega
  have z0 : (0 : Int) ≤ (m : Int) := by omega
  have z1 : (0 : Int) ≤ (m : Int) + 1 := by omega
  go_enter Try.func85, Try.ntmps85
  go_wp2_with (first | (go_at_call 73; refine (hW.out _).mono ?_; rintro e w' ⟨rfl, rfl⟩) | fail)
  obtain ⟨W1, hW1⟩ : ∃ W1, W1 = ((w.alloc (.cells #[.int .u8 r, .slice (some ⟨g, 0, none⟩) K K] 94)).alloc (.cells #[.float .f64 0, .float .f64 0] 75)) := ⟨_, rfl⟩
  rw [← hW1]
  have hs : W1.heap.size = w.heap.size + 1 + 1 := by rw [hW1]; simp
  have hb1 : Below w.heap.size w W1 := by rw [hW1]; exact (((Below.refl _ _).alloc (Nat.le_refl _) _).alloc (by simp) _)
  have c0 := kcell hb1 hg c0
  have c1 := kcell hb1 hg c1
  have d1 : W1.cell? ⟨w.heap.size, 1, none⟩ = some (.slice (some ⟨g, 0, none⟩) K K) := by rw [hW1]; go_simp
  have e0 : W1.cell? ⟨w.heap.size + 1, 0, none⟩ = some (fl 0) := by rw [hW1]; go_simp
  have e1 : W1.cell? ⟨w.heap.size + 1, 1, none⟩ = some (fl 0) := by rw [hW1]; go_simp
  have ef : ∀ j, W1.frozen? ⟨w.heap.size + 1, j, none⟩ = false := by intro j; rw [hW1]; go_simp
  have hn1 : ¬ g = w.heap.size + 1 := by omega
  have hn2 : ¬ w.heap.size + 1 = g := by omega
  clear hW1
  go_region_held (fun w' => w'.cell? ⟨g, m, none⟩ = some (fl (gd nums m)) ∧ w'.cell? ⟨g, m + 1, none⟩ = some (fl (gd nums (m + 1))) ∧ w'.cell? ⟨w.heap.size, 1, none⟩ = some (.slice (some ⟨g, 0, none⟩) K K)) (go_keep) (fail)
  go_wp2_with fail
  refine bodyPost_ret (v := .agg #[fl (gd nums m), fl (gd nums (m + 1))]) ?_ rfl ⟨by rw [hp.out.1, hp.out.2], ?_⟩
  · refine results_cell1 rfl _ rfl ?_
    go_simp
  · exact hb1.trans ((((Below.refl _ _).setCell (Nat.le_succ _) _).setCell (Nat.le_succ _) _).drew)

theorem less_xy (a b c d : Nat) (w : World) :
    Calls Try.prog 86 #[.agg #[fl a, fl b], .agg #[fl c, fl d]] w fun ex w' => ex = .returned (.bool (lxy a b c d)) ∧ Below w.heap.size w w' := by
  by_cases h : ne a c = true
  · have hd : Hid (lxy a b c d = lt a c) := Lib.hid (if_pos h)
    have h1 : (FloatKind.f64.format.order a c != some .eq) = true := h
    clear h
    go_enter Try.func86, Try.ntmps86
    go_wp2_with fail
    go_ret
    exact ⟨ret_bool hd.out.symm, (((Below.refl _ _).alloc (Nat.le_refl _) _).alloc (by simp) _)⟩
  · have hd : Hid (lxy a b c d = lt b d) := Lib.hid (if_neg h)
    have h1 : (FloatKind.f64.format.order a c != some .eq) = false := by simpa [ne] using h
    clear h
    go_enter Try.func86, Try.ntmps86
    go_wp2_with fail
    go_ret
    exact ⟨ret_bool hd.out.symm, (((Below.refl _ _).alloc (Nat.le_refl _) _).alloc (by simp) _)⟩

/-- '==' of two floats within a struct (the kit has the law for integers, bools, strings) -/
theorem run_equalIn_float {P : Program} (w : World) (d : Nat) (t : TypeId) (k k' : FloatKind) (a b : Nat) (h : P.underlying t = some (.float k')) : (Op.equalIn (d + 1) t (.float k a) (.float k b)).run P w = .ok (k.format.order a b == some .eq) w := by
  simp [Op.equalIn, run_underlying h]
  rfl

/-- whether two places differ (a name that the walk does not lay open) -/
def dif (a b c d : Nat) : Bool := ne a c || ne b d
theorem eq_xy (a b c d : Nat) (w : World) : (Op.equalIn 10000 75 (.agg #[.float .f64 a, .float .f64 b]) (.agg #[.float .f64 c, .float .f64 d])).run Try.prog w = .ok (!dif a b c d) w := by
  have e1 := fun (a b : Nat) (w : World) => run_equalIn_float (P := Try.prog) w 9998 30 .f64 .f64 a b Try.underlying30
  rw [show (10000 : Nat) = 9999 + 1 from rfl, run_equalIn_agg w 9999 75 _ _ (by kernel_rfl) (by kernel_rfl)]
  simp only [Program.fieldsOf, Try.underlying75]
  go_simp
  unfold dif ne
  by_cases h1 : FloatKind.f64.format.order a c = some .eq <;> by_cases h2 : FloatKind.f64.format.order b d = some .eq <;> simp [h1, h2]
theorem run_neq_xy (a b c d : Nat) (w : World) : (binOp .neq 75 (.agg #[.float .f64 a, .float .f64 b]) (.agg #[.float .f64 c, .float .f64 d])).run Try.prog w = .ok (.bool (dif a b c d)) w := by
  rw [run_neq_struct, eq_xy]; simp [go_sem]

/-- by X, then Y of the first places that differ; the longer list is less -/
def lessFrom (X Y X' Y' : Nat → Nat) (nb : Nat) : Nat → Nat → Bool
  | 0, _ => false
  | f + 1, i => if nb ≤ i then true else if dif (X i) (Y i) (X' i) (Y' i) = true then lxy (X i) (Y i) (X' i) (Y' i) else lessFrom X Y X' Y' nb f (i + 1)
end Go.Proofs.Ytmdllkjlbalbpaa.Ls
