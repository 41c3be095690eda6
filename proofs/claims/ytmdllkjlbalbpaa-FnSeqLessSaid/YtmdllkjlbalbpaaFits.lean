/-
  'zzFits2': whether the lengths of a geometry's lists fit.
-/
import Derived.Test.YtmdllkjlbalbpaaGeom
import Derived.Lib.SmallJoins
namespace Go.Proofs.Ytmdllkjlbalbpaa
open Go.ChangeShapes Go.WideShapes Go.ChangeAt Go.RowKit Go.Joins Go.Deep
attribute [local irreducible] wpQuiet

theorem ret_bool' {a b : Bool} (h : a = b) : Ending.returned (.bool a) = .returned (.bool b) := by rw [h]

set_option maxRecDepth 100000 in
theorem fits_any (k d : Int) (A B : Option Addr) (n c m e : Nat) (w : World) :
    Calls Try.prog 27 #[.agg #[.int .i64 k, .int .i64 d, .slice A n c, .slice B m e]] w fun ex w' => ex = .returned (.bool (decide (n ≤ 2147483647) && decide (m ≤ 2147483647))) ∧ Below w.heap.size w w' := by
  by_cases h1 : (n : Int) ≤ 2147483647
  · by_cases h2 : (m : Int) ≤ 2147483647
    · have hd : Hid ((decide (n ≤ 2147483647) && decide (m ≤ 2147483647)) = true) := Lib.hid (by simp; omega)
      go_enter Try.func27, Try.ntmps27
      go_wp2_with fail
      go_ret
      exact ⟨ret_bool' hd.out.symm, ((Below.refl _ _).alloc (Nat.le_refl _) _)⟩
    · have hd : Hid ((decide (n ≤ 2147483647) && decide (m ≤ 2147483647)) = false) := Lib.hid (by simp; omega)
      have h2' : (2147483647 : Int) < (m : Int) := by omega
      go_enter Try.func27, Try.ntmps27
      go_wp2_with fail
      go_ret
      exact ⟨ret_bool' hd.out.symm, ((Below.refl _ _).alloc (Nat.le_refl _) _)⟩
  · have hd : Hid ((decide (n ≤ 2147483647) && decide (m ≤ 2147483647)) = false) := Lib.hid (by simp; omega)
    have h1' : (2147483647 : Int) < (n : Int) := by omega
    go_enter Try.func27, Try.ntmps27
    go_wp2_with fail
    go_ret
    exact ⟨ret_bool' hd.out.symm, ((Below.refl _ _).alloc (Nat.le_refl _) _)⟩

set_option maxRecDepth 100000 in
/-- an argument that is a geometry -/
theorem open_geom_arg {H : Type} {enc : TypeId × Value → H} {W : World} {base : Nat} {v : Value} {d : DataW H} {p : List MemPlace} (hv : Value.okWide Try.prog W .any base 52 v) (h : DataW.Trod enc Try.prog W 0 (fun _ => true) true 52 v d p) :
    ∃ cs g, v = .agg cs ∧ IsG W W.heap.size cs.toList g := by
  obtain ⟨cs, rfl, -⟩ := okWide_struct Try.underlying52 hv
  obtain ⟨fuel, hf⟩ := h
  obtain ⟨g, hg⟩ := open_geom fuel _ _ hf
  exact ⟨cs, g, rfl, by simpa [Value.cells] using hg⟩
end Go.Proofs.Ytmdllkjlbalbpaa
