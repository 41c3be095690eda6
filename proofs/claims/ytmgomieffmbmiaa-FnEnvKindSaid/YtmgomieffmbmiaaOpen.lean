/-
  How arguments read: floats within structs and slices (the kit has these laws for integers and strings).
-/
import Derived.Test.YtmgomieffmbmiaaRows
import Derived.ProofKit
import Derived.WalkLawsBesides
import Derived.Lib.SmallJoins
import Derived.Deep.Slices
namespace Go.Proofs.Ytmgomieffmbmiaa
open Go.ChangeShapes Go.WideShapes Go.ChangeAt Go.RowKit Go.Joins
section
variable {H : Type} {enc : TypeId × Value → H} {P : Program} {w : World} {base : Nat} {spare : Nat → Bool} {held : Bool}
theorem trod_float {t : TypeId} {k : FloatKind} {fuel : Nat} {cs : List Value} {x : DataW H × List MemPlace} (ht : P.underlying t = some (.float k)) (h : DataW.trod enc P w base spare held fuel t cs = some x) :
    ∃ b, cs = [.float k b] ∧ x = (.lit (.float k b), []) ∧ (Lit.float k b).wf = true := by
  cases fuel with
  | zero => simp [DataW.trod] at h
  | succ n =>
    unfold DataW.trod at h
    rw [ht] at h
    split at h <;> simp_all
end
end Go.Proofs.Ytmgomieffmbmiaa
