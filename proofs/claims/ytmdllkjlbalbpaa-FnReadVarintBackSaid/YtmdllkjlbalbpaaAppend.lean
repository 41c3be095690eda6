/-
  Appends to a slice that the call made itself: of one new element, and of a slice wherever it lies (nil too). No program here.
-/
import Derived.Test.YtmdllkjlbalbpaaWalk
import Derived.OwnWalk
import Derived.Deep.AppendLies
import Derived.Laws.AppendOwnNone
namespace Go.Proofs.Ytmdllkjlbalbpaa
open Go.RowKit

/-- the world behind an append to an owned row is as it was below the row's base -/
theorem below_grown {w w' : World} {B : Nat} {v : Value} {n size : Nat} {e : TypeId} {xs : List Value} (hg : w.grownBy w' v.ownBlock) (hown : w.ownsRow B e size v n xs) (hB : B ≤ w.heap.size) : Below B w w' := by
  refine (Below.refl B w).grown hg hB fun k hk => ?_
  rcases hown.2 with ⟨rfl, _⟩ | ⟨g, cap, cur, rfl, hb, _⟩
  · cases hk
  · simp [Value.ownBlock] at hk; omega

section
variable {P : Program} {w : World}

/-- 'append(out, x)': the element lies in a new block, then the row grows by it -/
theorem wpList_append_new {ops : Array Oper} {rest : List Oper} {o : Oper} {a : Act} {Q : Exit → Act → World → Prop} (hgd : o.guard = none) (s x : Operand) (t : TypeId)
    (ho : o.op = .call { callee := .builtin .append, args := #[s, x], argTypes := #[t, t] })
    (base : Nat) (e : TypeId) (i : TypeInfo) (z : Value) (size bytes : Nat) (ht : P.underlying t = some (.slice e)) (hi : P.info? e = some i) (hz : i.zero = some z)
    (hsize : i.size = size) (hby : i.bytes = bytes) (hzs : z.cells.size = size) (hsz : 0 < size)
    (v : Value) (n : Nat) (xs : List Value) (hs : a.eval s = v) (hown : w.ownsRow base e size v n xs)
    (cs : Array Value) (hx : a.eval x = .slice (some ⟨w.heap.size, 0, none⟩) 1 1) (hcs : cs.size = size) (h1 : ∀ u ∈ cs.toList, u.oneCell' = true)
    (h63 : n + 1 ≤ maxLen) (hbytes : (n + 1) * bytes ≤ 140737488355328) (hbase : base ≤ w.heap.size)
    (h : ∀ g cap w', w'.ownsRow base e size (.slice (some ⟨g, 0, none⟩) (n + 1) cap) (n + 1) (xs ++ cs.toList) → Below base w w' → (w.alloc (.cells cs e)).grownBy w' v.ownBlock → (v.ownBlock = some g ∨ g = w.heap.size + 1) → wpList P ops Q rest (a.put o.dst (.slice (some ⟨g, 0, none⟩) (n + 1) cap)) w') :
    wpList P ops Q (o :: rest) a (w.alloc (.cells cs e)) := by
  refine wpList_append_lies _ hgd s x t ho base e i z size bytes ht hi hz hsize hby hzs hsz v n xs hs (hown.alloc _) ⟨w.heap.size, 0, none⟩ 1 1 cs.toList hx (by simp [hcs]) (World.news_of_block (cs := cs) (t := e) (fr := (0, 0)) (heap_alloc_new w _)) h1
    (by omega) h63 hbytes (by simp; omega) (w.heap.size + 1) (by simp) ?_
  intro g cap w' hown' hg hat _
  exact h g cap w' hown' (((Below.refl base w).alloc hbase _).trans (below_grown hg (hown.alloc _) (by simp; omega))) hg hat

/-- where an appended slice's cells lie; nil too -/
def SrcAt (w : World) (A : Option Addr) (m c size : Nat) (news : List Value) : Prop :=
  (A = none ∧ m = 0 ∧ c = 0 ∧ news = []) ∨ ∃ ad, A = some ad ∧ news.length = m * size ∧ (∀ j u, news[j]? = some u → w.cell? (ad.add j) = some u)

/-- 'append(out, src...)' -/
theorem wpList_append_src {ops : Array Oper} {rest : List Oper} {o : Oper} {a : Act} {Q : Exit → Act → World → Prop} (hgd : o.guard = none) (s x : Operand) (t : TypeId)
    (ho : o.op = .call { callee := .builtin .append, args := #[s, x], argTypes := #[t, t] })
    (base : Nat) (e : TypeId) (i : TypeInfo) (z : Value) (size bytes : Nat) (ht : P.underlying t = some (.slice e)) (hi : P.info? e = some i) (hz : i.zero = some z)
    (hsize : i.size = size) (hby : i.bytes = bytes) (hzs : z.cells.size = size) (hsz : 0 < size)
    (v : Value) (n : Nat) (xs : List Value) (hs : a.eval s = v) (hown : w.ownsRow base e size v n xs)
    (A : Option Addr) (m c : Nat) (news : List Value) (hx : a.eval x = .slice A m c) (hsrc : SrcAt w A m c size news) (h1 : ∀ u ∈ news, u.oneCell' = true)
    (h63 : n + m ≤ maxLen) (hbytes : (n + m) * bytes ≤ 140737488355328) (hbase : base ≤ w.heap.size)
    (h : ∀ v' w', w'.ownsRow base e size v' (n + m) (xs ++ news) → Below base w w' → w.grownBy w' v.ownBlock → wpList P ops Q rest (a.put o.dst v') w') : wpList P ops Q (o :: rest) a w := by
  rcases hsrc with ⟨rfl, rfl, rfl, rfl⟩ | ⟨ad, rfl, hl, hc⟩
  · refine wpList_append_own_none hgd s x t ho base e i size ht hi v n xs hs hown hx ?_
    exact h v w (by simpa using hown) (Below.refl _ _) ⟨rfl, rfl, rfl, Nat.le_refl _, fun _ _ _ => rfl⟩
  · refine wpList_append_own _ hgd s x t ho base e i z size bytes ht hi hz hsize hby hzs hsz v n xs hs hown ad m c news hx hl hc h1 h63 hbytes hbase ?_
    intro v' w' hown' hg _
    exact h v' w' hown' (below_grown hg hown hbase) hg
end
end Go.Proofs.Ytmdllkjlbalbpaa
