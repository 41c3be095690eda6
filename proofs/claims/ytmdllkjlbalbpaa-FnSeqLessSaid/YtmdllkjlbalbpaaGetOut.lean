/-
  'Sequence.Get' at an index out of range: it panics.
-/
import Derived.Test.YtmdllkjlbalbpaaGet
import Derived.RegionDies
import Derived.Laws.Panics
namespace Go.Proofs.Ytmdllkjlbalbpaa.Gt
open Go.ChangeShapes Go.WideShapes Go.ChangeAt Go.RowKit Go.Sort
open Wd Pl Ln
attribute [local irreducible] wpQuiet
attribute [local go_sem ↓] Go.wp_at_zero Go.wp_at_succ

theorem boundsPanic_same {P : Program} {α : Type} (k : IntKind) (x y : Int) (code : BoundsCode) (w : World) :
    ∃ s w', (boundsPanic k x y code : Sem α).run P w = .halt (.panic (boundsValue P (IntKind.i64.wrap x) y s code.toNat)) w' ∧ Below w.heap.size w w' := by
  unfold boundsPanic boundsValue
  split
  · refine ⟨(Question.extern "runtime.boundsError.signed" 2).cut (w.tape w.drawn (Question.extern "runtime.boundsError.signed" 2)) == 1, w.drew, ?_, (Below.refl _ _).drew⟩
    simp [runtimePanic, goPanic, go_sem]
  · refine ⟨k != .u64, w, ?_, Below.refl _ _⟩
    simp [runtimePanic, goPanic, go_sem]

/-- an index out of range, in whatever world -/
theorem index_out (P : Program) (t : TypeId) (a : Addr) (len cap : Nat) (h : P.underlying t = some (.slice (P.elem t))) :
    ∃ (S : Int → World → Bool) (F : Int → World → World), (∀ (i : Int) (w : World), i < 0 ∨ (len : Int) ≤ i → (Instr.indexAt t (.slice (some a) len cap) (.int .i64 i)).run P w = .halt (.panic (boundsValue P (IntKind.i64.wrap i) len (S i w) 0)) (F i w)) ∧ ∀ i w, Below w.heap.size w (F i w) := by
  have h1 : ∀ p : Int × World, ∃ q : Bool × World, (boundsPanic .i64 p.1 len .index : Sem Value).run P p.2 = .halt (.panic (boundsValue P (IntKind.i64.wrap p.1) len q.1 0)) q.2 ∧ Below p.2.heap.size p.2 q.2 := fun p => by
    obtain ⟨s, w', h1, h2⟩ := boundsPanic_same (P := P) (α := Value) .i64 p.1 len .index p.2
    exact ⟨(s, w'), h1, h2⟩
  obtain ⟨f, hf⟩ := Classical.axiomOfChoice h1
  refine ⟨fun i w => (f (i, w)).1, fun i w => (f (i, w)).2, fun i w ho => ?_, fun i w => (hf (i, w)).2⟩
  rw [run_indexAt_slice (h := h), if_neg (by omega)]
  have := (hf (i, w)).1
  exact this

theorem post_panic {P : Program} {fn : Func} {Q : Ending → World → Prop} {ps : List PanicEntry} {a : Act} {w : World} (hd : a.defers = []) (h : Q (.panicked ps) w) : bodyPost P fn Q (Exit.panic ps) a w := ⟨hd, h⟩

set_option maxRecDepth 100000 in
set_option maxHeartbeats 8000000 in
theorem get_out (r : Nat) (hr : r < 4) (g K : Nat) (hmod : K % wd r = 0) (i : Int) (hi1 : -1000000 ≤ i) (hi2 : i ≤ 1000000) (hi : i < 0 ∨ ((K / wd r : Nat) : Int) ≤ i) (w : World) :
    Calls Try.prog 53 #[.agg #[.int .u8 r, .slice (some ⟨g, 0, none⟩) K K], .int .i64 i] w fun ex w' =>
      (∃ T v, ex = .panicked [{ v := .iface T v, recovered := false }]) ∧ Below w.heap.size w w' := by
  have hW := Lib.hid (fun w => dimension_any r hr w)
  have hwb := wd_bd r
  obtain ⟨m, hm⟩ : ∃ m, i * (wd r : Int) = m := ⟨_, rfl⟩
  have ho : m < -1 ∨ (K : Int) ≤ m := by
    have hK : K / wd r * wd r = K := by have := Nat.div_add_mod K (wd r); rw [Nat.mul_comm]; omega
    have : wd r = 2 ∨ wd r = 3 ∨ wd r = 4 := by omega
    rcases this with e | e | e <;> rw [e] at hm hi hK <;> omega
  have hm1 : -4000000 ≤ m ∧ m ≤ 4000000 := by
    have : wd r = 2 ∨ wd r = 3 ∨ wd r = 4 := by omega
    rcases this with e | e | e <;> rw [e] at hm <;> omega
  have q0 : IntKind.i64.wrap (i * (wd r : Int)) = m := by rw [hm, IntKind.wrap_i64]; omega
  have q1 : IntKind.i64.wrap (m + 1) = m + 1 := by rw [IntKind.wrap_i64]; omega
  obtain ⟨S, F, hF, hb⟩ := index_out Try.prog 49 ⟨g, 0, none⟩ K K (by kernel_rfl)
  have o1 := fun w => hF m w (by omega)
  have o2 := fun w => hF (m + 1) w (by omega)
  have hfin : ∀ i W', Below w.heap.size w W' → Below w.heap.size w (F i W') := fun i W' h => h.trans ((hb i W').mono h.size)
  clear hb hF
  generalize wd r = W at *
  clear hm hmod hi
  go_enter Try.func53, Try.ntmps53
  go_wp2_with (first | (go_at_call 73; refine (hW.out _).mono ?_; rintro e w' ⟨rfl, rfl⟩) | fail)
  go_region_dies
  all_goals (try go_wp2_with fail)
  all_goals first | exact post_panic rfl ⟨⟨_, _, rfl⟩, hfin _ _ ((((Below.refl _ _).alloc (Nat.le_refl _) _).alloc (by simp) _)).drew⟩ | exact post_panic rfl ⟨⟨_, _, rfl⟩, hfin _ _ (((((Below.refl _ _).alloc (Nat.le_refl _) _).alloc (by simp) _).alloc (by simp <;> omega) _)).drew⟩
end Go.Proofs.Ytmdllkjlbalbpaa.Gt
