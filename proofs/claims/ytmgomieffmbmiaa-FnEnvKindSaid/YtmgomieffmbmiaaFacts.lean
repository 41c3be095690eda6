/-
  What a contract that ends in 'Below' says of a world, spelled so that the walk uses it by itself (under a condition on the block that it decides).
-/
import Derived.Test.YtmgomieffmbmiaaWalk
namespace Go.Proofs.Ytmgomieffmbmiaa
open Go.RowKit Go

theorem fcell {B : Nat} {W w' : World} (hb : Below B W w') : ∀ b o, b < B → w'.cell? ⟨b, o, none⟩ = W.cell? ⟨b, o, none⟩ := fun b o h => hb.cell (p := ⟨b, o, none⟩) h
theorem ffroz {B : Nat} {W w' : World} (hb : Below B W w') : ∀ b o, b < B → w'.frozen? ⟨b, o, none⟩ = W.frozen? ⟨b, o, none⟩ := fun b o h => hb.frozen (p := ⟨b, o, none⟩) h
theorem flt {W w' : World} (hb : Below W.heap.size W w') : ∀ b, b < W.heap.size → b < w'.heap.size := fun _ h => Nat.lt_of_lt_of_le h hb.size
theorem fle {W w' : World} (hb : Below W.heap.size W w') : ∀ b, b < W.heap.size → b ≤ w'.heap.size := fun b h => Nat.le_of_lt (flt hb b h)
theorem fne {W w' : World} (hb : Below W.heap.size W w') : ∀ b, b < W.heap.size → (w'.heap.size = b) = False := fun b h => eq_false (by have := flt hb b h; omega)
theorem fne' {W w' : World} (hb : Below W.heap.size W w') : ∀ b, b < W.heap.size → (b = w'.heap.size) = False := fun b h => eq_false (by have := flt hb b h; omega)
theorem flt1 {W w' : World} (hb : Below W.heap.size W w') : ∀ b, b < W.heap.size → b < w'.heap.size + 1 := fun b h => Nat.lt_succ_of_lt (flt hb b h)
theorem flt2 {W w' : World} (hb : Below W.heap.size W w') : ∀ b, b < W.heap.size → b < w'.heap.size + 1 + 1 := fun b h => Nat.lt_succ_of_lt (flt1 hb b h)
theorem fne1 {W w' : World} (hb : Below W.heap.size W w') : ∀ b, b < W.heap.size → (w'.heap.size + 1 = b) = False := fun b h => eq_false (by have := flt hb b h; omega)
theorem fne1' {W w' : World} (hb : Below W.heap.size W w') : ∀ b, b < W.heap.size → (b = w'.heap.size + 1) = False := fun b h => eq_false (by have := flt hb b h; omega)
theorem old {W w' : World} (hb : Below W.heap.size W w') (b : Nat) (h : b < W.heap.size) : (∀ o, w'.cell? ⟨b, o, none⟩ = W.cell? ⟨b, o, none⟩) ∧ (∀ o, w'.frozen? ⟨b, o, none⟩ = W.frozen? ⟨b, o, none⟩) ∧
    (w'.heap.size = b) = False ∧ (b = w'.heap.size) = False ∧ (w'.heap.size + 1 = b) = False ∧ (b = w'.heap.size + 1) = False ∧ b < w'.heap.size ∧ b ≤ w'.heap.size :=
  ⟨fun o => fcell hb b o h, fun o => ffroz hb b o h, fne hb b h, fne' hb b h, fne1 hb b h, fne1' hb b h, flt hb b h, fle hb b h⟩
theorem old_k {W w' : World} {C : Prop} (hb : Below W.heap.size W w') (b : Nat) (h : b < W.heap.size) (k : (∀ o, w'.cell? ⟨b, o, none⟩ = W.cell? ⟨b, o, none⟩) → (∀ o, w'.frozen? ⟨b, o, none⟩ = W.frozen? ⟨b, o, none⟩) →
    (w'.heap.size = b) = False → (b = w'.heap.size) = False → (w'.heap.size + 1 = b) = False → (b = w'.heap.size + 1) = False → b < w'.heap.size → b ≤ w'.heap.size → C) : C :=
  k (fun o => fcell hb b o h) (fun o => ffroz hb b o h) (fne hb b h) (fne' hb b h) (fne1 hb b h) (fne1' hb b h) (flt hb b h) (fle hb b h)

/-- below block B the world is as it was: said twice, the second time as the walk uses it -/
abbrev Held (B : Nat) (w1 w' : World) : Prop := Below B w1 w' ∧ ∀ b o, b < B → w'.cell? ⟨b, o, none⟩ = w1.cell? ⟨b, o, none⟩
theorem heldOf {B : Nat} {w1 w' : World} (h : Below B w1 w') : Held B w1 w' := ⟨h, fun b o hb => h.cell (p := ⟨b, o, none⟩) hb⟩
theorem heldDrew {B : Nat} {w1 w' : World} (h : Held B w1 w') : Held B w1 w'.drew := heldOf h.1.drew
theorem heldAlloc {B : Nat} {w1 w' : World} {o : Obj} (hz : B ≤ w1.heap.size) (h : Held B w1 w') : Held B w1 (w'.alloc o) := heldOf (h.1.alloc (Nat.le_trans hz h.1.size) o)
theorem heldSet {B : Nat} {w1 w' : World} {a : Addr} {v : Value} (h : Held B w1 w') (hb : B ≤ a.block) : Held B w1 (w'.setCell a v) := heldOf (h.1.setCell hb v)
theorem heldTrans {B : Nat} {w1 w' w2 : World} (h : Held B w1 w') (hb : Below w'.heap.size w' w2) (hz : B ≤ w1.heap.size) : Held B w1 w2 := heldOf (h.1.trans (hb.mono (Nat.le_trans hz h.1.size)))
end Go.Proofs.Ytmgomieffmbmiaa
