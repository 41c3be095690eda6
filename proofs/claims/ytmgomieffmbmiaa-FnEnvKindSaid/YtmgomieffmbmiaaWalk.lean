/-
  Helpers of the walks: a float stored into a cell; a region that draws its order, only reads, and whose callees may lay new blocks.
-/
import Derived.Test.YtmgomieffmbmiaaRows
import Derived.Test.YtmgomieffmbmiaaRegion
import Derived.WalkKit
import Derived.WalkLawsBesides
import Derived.ProofKit
import Derived.BigQuiet
import Derived.Lib.Hide
import Derived.Lib.QuietBelow
import Derived.Deep.WholeRow
namespace Go.Proofs.Ytmgomieffmbmiaa
open Go.RowKit Go.Sort

section
variable {P : Program} {w : World} {a : Addr} {m : Mode}
/-- a float into a cell (the kit has the law for the other kinds of values) -/
@[go_sem] theorem run_store_float (k : FloatKind) (b : Nat) : (store a (.float k b) m).run P w = stored P w a (.float k b) m := run_store P w a _ m rfl
end

/-- the class of worlds: 'w' after some draws, with some blocks laid behind it -/
abbrev Cls (W : World) : World → Prop := fun w' => ∃ p : Regrown, w' = grow (redrawn W p.d) p.os

/-- A REGION THAT DRAWS ITS ORDER, ONLY READS, AND WHOSE CALLEES MAY LAY NEW BLOCKS: walked once, in the order of the text; the world ahead of it becomes a variable of which 'S' is known. -/
theorem region_reads {P : Program} {id : Nat} {Q : Exit → Act → World → Prop} {a : Act} {W : World} {l : List Oper} (S : World → Prop) (hS : ∀ d os, S (grow (redrawn W d) os))
    (hm : P.follows .mixedOrders = true) (hB : Region.lexB .any l.toArray = true)
    (h : ∀ W1 : World, W1.heap.size = W.heap.size → (∀ d os, S (grow (redrawn W1 d) os)) → wpQuiet P l.toArray (Cls W1) (fun a' => ∀ w', Below W.heap.size W w' → Q .normal a' w') l a) :
    (Code.region id l.toArray true).wp P Q a W := by
  refine wp_region_quiet (C := Cls W) hm hB ⟨⟨W.drawn + 1, #[]⟩, by rw [grow_empty]; rfl⟩ ?_
  have hmono : ∀ (l' : List Oper) (a' : Act), wpQuiet P l.toArray (Cls W) (fun a' => ∀ w', Below W.heap.size W w' → Q .normal a' w') l' a' → wpQuiet P l.toArray (Cls W) (fun a' => ∀ w', Cls W w' → Q .normal a' w') l' a' := by
    intro l'
    induction l' with
    | nil => intro a' h' w' ⟨p, hw'⟩; subst hw'; exact h' _ (below_regrown W p.d p.os)
    | cons o rest ih =>
      intro a' h'
      unfold wpQuiet at h' ⊢
      split
      · rename_i hw; rw [if_pos hw] at h'; exact Oper.quiet_mono ih h'
      · rename_i hw; rw [if_neg hw] at h'; exact ih _ h'
  exact hmono _ _ (by simpa using h W rfl hS)

/-- the old cells and marks behind a 'Below' -/
theorem bcell {W w1 : World} (hb : Below W.heap.size W w1) : (∀ b o, b < W.heap.size → w1.cell? ⟨b, o, none⟩ = W.cell? ⟨b, o, none⟩) ∧ (∀ b o, b < W.heap.size → w1.frozen? ⟨b, o, none⟩ = W.frozen? ⟨b, o, none⟩) :=
  ⟨fun b o h => hb.cell (p := ⟨b, o, none⟩) h, fun b o h => hb.frozen (p := ⟨b, o, none⟩) h⟩

/-- a cell, a mark of an old block, kept -/
theorem kcell {W w1 : World} (hb : Below W.heap.size W w1) {b o : Nat} {v : Value} (hlt : b < W.heap.size) (h : W.cell? ⟨b, o, none⟩ = some v) : w1.cell? ⟨b, o, none⟩ = some v := (hb.cell (p := ⟨b, o, none⟩) hlt).trans h
theorem kfroz {W w1 : World} (hb : Below W.heap.size W w1) {b o : Nat} (hlt : b < W.heap.size) (h : W.frozen? ⟨b, o, none⟩ = false) : w1.frozen? ⟨b, o, none⟩ = false := (hb.frozen (p := ⟨b, o, none⟩) hlt).trans h

/-- a whole struct (or array) into the block that was made last, in one step: a great one, stored cell by cell, costs the kernel gigabytes -/
theorem wpList_store_new {P : Program} {w : World} {ops : Array Oper} {rest : List Oper} {o : Oper} {a : Act} {Q : Exit → Act → World → Prop} (hgd : o.guard = none) (ty : TypeId) (x y : Operand) (ho : o.op = .store ty x y)
    (c c' : Array Value) (hx : a.eval x = .pointer (some ⟨w.heap.size, 0, none⟩)) (hy : a.eval y = .agg c') (hi : (P.info? ty).map (·.size) = some c'.size) (hc : c.size = c'.size) (h1 : c'.all (·.oneCell') = true)
    (h : wpList P ops Q rest (a.put o.dst undef) (w.alloc (.cells c' ty))) : wpList P ops Q (o :: rest) a (w.alloc (.cells c ty)) := by
  refine wpList_plain hgd fun K hK => ?_
  unfold Oper.wp execOp
  simp only [ho, hx, hy, Sem.run_bind, Result.andThen_ok, run_storeAt_new w ty c c' hi hc h1]
  exact hK _ _ h

/-- a whole struct out of the block that was made last -/
theorem run_loadVar_newS {P : Program} (w : World) (ty : TypeId) (c : Array Value) (n : Nat) (ha : ∀ w, (isAgg ty).run P w = .ok true w) (hs : ∀ w, (sizeOf ty).run P w = .ok n w) (hn : c.size = n) :
    (loadVar ty ⟨w.heap.size, 0, none⟩).run P (w.alloc (.cells c ty)) = .ok (.agg c) (w.alloc (.cells c ty)) := by
  unfold loadVar loadCells
  simp only [Sem.run_bind, ha, Result.andThen_ok, if_true, hs, run_loadCellsFrom_new w ty c n hn, Sem.run_pure]

/-- one result that lies in a variable -/
theorem results_cell1 {P : Program} {w w' : World} {fn : Func} {p : Tmp} {ty : TypeId} (h : fn.results = #[.cell p ty]) (tmps : Array Value) {a : Addr} {v : Value} (ha : tmps.getD p undef = .pointer (some a)) (hl : (loadVar ty a).run P w = .ok v w') :
    (results fn tmps).run P w = .ok v w' := by
  simp only [results, h]
  rw [Array.getD_eq_getD_getElem?] at ha
  simp [asAddr, ha, hl]

/-! ### a drawn region in phases -/
section
variable {P : Program} {l : List Oper} {Q : Exit → Act → World → Prop} {a : Act} {W : World} {k m : Nat}

theorem region_stages {id : Nat} (hm : P.follows .mixedOrders = true) (h : Stage P l.toArray Q 0 a W.drew) : (Code.region id l.toArray true).wp P Q a W := stage_start hm h

theorem seg_at (l : List Oper) (k m : Nat) (hk : k ≤ m) (hm : m ≤ l.length) : (m = k + ((l.take m).drop k).length) ∧ ∀ j, j < ((l.take m).drop k).length → l.toArray[k + j]? = ((l.take m).drop k)[j]? := by
  have e : ((l.take m).drop k).length = m - k := by rw [List.length_drop, List.length_take]; omega
  refine ⟨by omega, fun j hj => ?_⟩
  rw [List.getElem?_toArray, List.getElem?_drop, List.getElem?_take_of_lt (by omega)]

/-- the operations from 'k' to 'm' only read, and call nothing that lays memory: the world stays -/
theorem stage_loads (hB : segB l.toArray k m = true) (hkm : k ≤ m ∧ m ≤ l.length)
    (h : wpQuiet P l.toArray (fun w' => w' = W) (fun a' => Stage P l.toArray Q m a' W) ((l.take m).drop k) a) : Stage P l.toArray Q k a W := by
  obtain ⟨h1, h2⟩ := seg_at l k m hkm.1 hkm.2
  refine stage_quiet (C := fun w' => w' = W) hB (by simpa using hkm.2) h1 h2 rfl ?_
  have hmono : ∀ (l' : List Oper) (a' : Act), wpQuiet P l.toArray (fun w' => w' = W) (fun a' => Stage P l.toArray Q m a' W) l' a' → wpQuiet P l.toArray (fun w' => w' = W) (fun a' => ∀ w', w' = W → Stage P l.toArray Q m a' w') l' a' := by
    intro l'
    induction l' with
    | nil => intro a' h' w' hw'; subst hw'; exact h'
    | cons o rest ih =>
      intro a' h'
      unfold wpQuiet at h' ⊢
      split
      · rename_i hw; rw [if_pos hw] at h'; exact Oper.quiet_mono ih h'
      · rename_i hw; rw [if_neg hw] at h'; exact ih _ h'
  exact hmono _ _ h

/-- the operations from 'k' to 'm' only read; what they call may lay new blocks -/
theorem stage_reads (S : World → Prop) (hS : ∀ d os, S (grow (redrawn W d) os)) (hB : segB l.toArray k m = true) (hkm : k ≤ m ∧ m ≤ l.length)
    (h : ∀ W1 : World, W1.heap.size = W.heap.size → (∀ d os, S (grow (redrawn W1 d) os)) → wpQuiet P l.toArray (Cls W1) (fun a' => ∀ w', Below W.heap.size W w' → Stage P l.toArray Q m a' w') ((l.take m).drop k) a) :
    Stage P l.toArray Q k a W := by
  obtain ⟨h1, h2⟩ := seg_at l k m hkm.1 hkm.2
  refine stage_quiet (C := Cls W) hB (by simpa using hkm.2) h1 h2 ⟨⟨W.drawn, #[]⟩, by rw [grow_empty]; rfl⟩ ?_
  have hmono : ∀ (l' : List Oper) (a' : Act), wpQuiet P l.toArray (Cls W) (fun a' => ∀ w', Below W.heap.size W w' → Stage P l.toArray Q m a' w') l' a' → wpQuiet P l.toArray (Cls W) (fun a' => ∀ w', Cls W w' → Stage P l.toArray Q m a' w') l' a' := by
    intro l'
    induction l' with
    | nil => intro a' h' w' ⟨p, hw'⟩; subst hw'; exact h' _ (below_regrown W p.d p.os)
    | cons o rest ih =>
      intro a' h'
      unfold wpQuiet at h' ⊢
      split
      · rename_i hw; rw [if_pos hw] at h'; exact Oper.quiet_mono ih h'
      · rename_i hw; rw [if_neg hw] at h'; exact ih _ h'
  exact hmono _ _ (h W rfl hS)

/-- the operations from 'k' to 'm' come up alone, one behind the other -/
theorem stage_steps (hB : alone l.toArray (m - k) k = true) (hkm : k ≤ m ∧ m ≤ l.length) (h : wpList P l.toArray (Exit.then (Stage P l.toArray Q m) Q) ((l.take m).drop k) a W) : Stage P l.toArray Q k a W := by
  obtain ⟨h1, h2⟩ := seg_at l k m hkm.1 hkm.2
  exact stage_list _ h2 (by rw [show ((l.take m).drop k).length = m - k from by omega]; exact hB) h1 h

theorem stage_done (hk : k = l.length) (h : Q .normal a W) : Stage P l.toArray Q k a W := stage_end (by simpa using hk) h
end
end Go.Proofs.Ytmgomieffmbmiaa
