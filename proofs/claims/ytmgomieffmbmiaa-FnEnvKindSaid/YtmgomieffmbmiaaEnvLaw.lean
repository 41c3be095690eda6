/-
  The law of envelopes, without the program: they grow together in any order to the same.
-/
import Derived.Test.YtmgomieffmbmiaaEnvAll
namespace Go.Proofs.Ytmgomieffmbmiaa.Ev
open Fl Fi

/-- an envelope of numbers, its ends in order -/
def Ok : Option Bx → Prop
  | none => True
  | some x => (Num x.a ∧ Num x.b ∧ Num x.c ∧ Num x.d) ∧ V x.a ≤ V x.c ∧ V x.b ≤ V x.d
/-- its values -/
def val : Option Bx → Option (Int × Int × Int × Int)
  | none => none
  | some x => some (V x.a, V x.b, V x.c, V x.d)
def jv : Option (Int × Int × Int × Int) → Option (Int × Int × Int × Int) → Option (Int × Int × Int × Int)
  | none, y => y
  | some x, none => some x
  | some x, some y => some (min x.1 y.1, min x.2.1 y.2.1, max x.2.2.1 y.2.2.1, max x.2.2.2 y.2.2.2)

theorem nan_num {x : Nat} (h : Num x) : nan x = false := by
  unfold nan
  rw [fin_ne h h]
  simp
theorem fmin_num {a b : Nat} (ha : Num a) (hb : Num b) : Num (fmin a b) ∧ V (fmin a b) = min (V a) (V b) := by
  unfold fmin lt
  rw [nan_num ha, Bool.false_or, fin_lt ha hb]
  by_cases h : V a < V b
  · rw [if_pos (by simpa using h)]; exact ⟨ha, by omega⟩
  · rw [if_neg (by simpa using h)]; exact ⟨hb, by omega⟩
theorem fmax_num {a b : Nat} (ha : Num a) (hb : Num b) : Num (fmax a b) ∧ V (fmax a b) = max (V a) (V b) := by
  unfold fmax gt
  rw [nan_num ha, Bool.false_or, fin_gt ha hb]
  by_cases h : V b < V a
  · rw [if_pos (by simpa using h)]; exact ⟨ha, by omega⟩
  · rw [if_neg (by simpa using h)]; exact ⟨hb, by omega⟩
theorem gmin_num {a b : Nat} (ha : Num a) (hb : Num b) : Num (gmin a b) ∧ V (gmin a b) = min (V a) (V b) := by
  unfold gmin lt
  rw [fin_lt hb ha]
  by_cases h : V b < V a
  · rw [if_pos (by simpa using h)]; exact ⟨hb, by omega⟩
  · rw [if_neg (by simpa using h)]; exact ⟨ha, by omega⟩
theorem gmax_num {a b : Nat} (ha : Num a) (hb : Num b) : Num (gmax a b) ∧ V (gmax a b) = max (V a) (V b) := by
  unfold gmax gt
  rw [fin_gt hb ha]
  by_cases h : V a < V b
  · rw [if_pos (by simpa using h)]; exact ⟨hb, by omega⟩
  · rw [if_neg (by simpa using h)]; exact ⟨ha, by omega⟩

theorem join_ok {x y : Option Bx} (hx : Ok x) (hy : Ok y) : Ok (join x y) ∧ val (join x y) = jv (val x) (val y) := by
  cases x with
  | none => exact ⟨hy, rfl⟩
  | some x =>
    cases y with
    | none => exact ⟨hx, rfl⟩
    | some y =>
      obtain ⟨⟨xa, xb, xc, xd⟩, xo, xp⟩ := hx
      obtain ⟨⟨ya, yb, yc, yd⟩, yo, yp⟩ := hy
      obtain ⟨n1, v1⟩ := fmin_num xa ya
      obtain ⟨n2, v2⟩ := fmin_num xb yb
      obtain ⟨n3, v3⟩ := fmax_num xc yc
      obtain ⟨n4, v4⟩ := fmax_num xd yd
      refine ⟨⟨⟨n1, n2, n3, n4⟩, ?_, ?_⟩, ?_⟩
      · show V (fmin x.a y.a) ≤ V (fmax x.c y.c)
        omega
      · show V (fmin x.b y.b) ≤ V (fmax x.d y.d)
        omega
      · show some (V (fmin x.a y.a), V (fmin x.b y.b), V (fmax x.c y.c), V (fmax x.d y.d)) = _
        rw [v1, v2, v3, v4]; rfl

/-- an input with finite ends -/
def Fin4 (f : Bool) (x : Bx) : Prop := f = true → Num x.a ∧ Num x.b ∧ Num x.c ∧ Num x.d
theorem fin4_of {f : Bool} {x : Bx} (h : okE f x) : Fin4 f x := fun hf => by
  have := h hf
  unfold finB at this
  simp only [Bool.and_eq_true] at this
  exact ⟨fin_num this.1, fin_num this.2.1, fin_num this.2.2.1, fin_num this.2.2.2⟩
def iva (f : Bool) (x : Bx) : Option (Int × Int × Int × Int) := if f = true then some (min (V x.a) (V x.c), min (V x.b) (V x.d), max (V x.a) (V x.c), max (V x.b) (V x.d)) else none
theorem envOf_ok {f : Bool} {x : Bx} (h : Fin4 f x) : Ok (envOf f x) ∧ val (envOf f x) = iva f x := by
  cases f
  · exact ⟨trivial, rfl⟩
  · obtain ⟨xa, xb, xc, xd⟩ := h rfl
    obtain ⟨n1, v1⟩ := fmin_num xa xc
    obtain ⟨n2, v2⟩ := fmin_num xb xd
    obtain ⟨n3, v3⟩ := fmax_num xa xc
    obtain ⟨n4, v4⟩ := fmax_num xb xd
    refine ⟨⟨⟨n1, n2, n3, n4⟩, ?_, ?_⟩, ?_⟩
    · show V (fmin x.a x.c) ≤ V (fmax x.a x.c)
      omega
    · show V (fmin x.b x.d) ≤ V (fmax x.b x.d)
      omega
    · show some (V (fmin x.a x.c), V (fmin x.b x.d), V (fmax x.a x.c), V (fmax x.b x.d)) = _
      rw [v1, v2, v3, v4]; rfl
theorem made_ok {f : Bool} {x : Bx} (h : Fin4 f x) : Ok (made f x) ∧ val (made f x) = iva f x := by
  cases f
  · exact ⟨trivial, rfl⟩
  · obtain ⟨xa, xb, xc, xd⟩ := h rfl
    obtain ⟨n1, v1⟩ := gmin_num xa xc
    obtain ⟨n2, v2⟩ := gmin_num xb xd
    obtain ⟨n3, v3⟩ := gmax_num xa xc
    obtain ⟨n4, v4⟩ := gmax_num xb xd
    refine ⟨⟨⟨n1, n2, n3, n4⟩, ?_, ?_⟩, ?_⟩
    · show V (gmin x.a x.c) ≤ V (gmax x.a x.c)
      omega
    · show V (gmin x.b x.d) ≤ V (gmax x.b x.d)
      omega
    · show some (V (gmin x.a x.c), V (gmin x.b x.d), V (gmax x.a x.c), V (gmax x.b x.d)) = _
      rw [v1, v2, v3, v4]; rfl

/-- a plain envelope as an input -/
def fl_ : Option Bx → Bool
  | none => false
  | some _ => true
def bx : Option Bx → Bx
  | none => ⟨0, 0, 0, 0⟩
  | some x => x
theorem pv_iv (x : Option Bx) : pv x = iv (fl_ x) (bx x) := by cases x <;> rfl
theorem pv_ok {x : Option Bx} (h : Ok x) : Fin4 (fl_ x) (bx x) ∧ iva (fl_ x) (bx x) = val x := by
  cases x with
  | none => exact ⟨(fun h => by cases h), rfl⟩
  | some x =>
    obtain ⟨hn, h1, h2⟩ := h
    refine ⟨fun _ => hn, ?_⟩
    show some (min (V x.a) (V x.c), min (V x.b) (V x.d), max (V x.a) (V x.c), max (V x.b) (V x.d)) = some (V x.a, V x.b, V x.c, V x.d)
    rw [show min (V x.a) (V x.c) = V x.a by omega, show min (V x.b) (V x.d) = V x.b by omega, show max (V x.a) (V x.c) = V x.c by omega, show max (V x.b) (V x.d) = V x.d by omega]

theorem feq_of {a b : Nat} (ha : Num a) (hb : Num b) (h : V a = V b) : feq a b = true := by
  unfold feq
  rw [fin_eq ha hb]
  simpa using h
theorem eqE_of {x y : Option Bx} (hx : Ok x) (hy : Ok y) (h : val x = val y) : eqE x y = true := by
  cases x with
  | none => cases y with
    | none => rfl
    | some y => cases h
  | some x => cases y with
    | none => cases h
    | some y =>
      obtain ⟨⟨xa, xb, xc, xd⟩, -, -⟩ := hx
      obtain ⟨⟨ya, yb, yc, yd⟩, -, -⟩ := hy
      injection h with h
      simp only [Prod.mk.injEq] at h
      obtain ⟨h1, h2, h3, h4⟩ := h
      show sameB _ _ _ _ _ _ _ _ = true
      unfold sameB
      rw [feq_of xa ya h1, feq_of xb yb h2, feq_of xc yc h3, feq_of xd yd h4]; rfl

theorem jv_same (x : Option (Int × Int × Int × Int)) : jv x x = x := by
  cases x with
  | none => rfl
  | some x =>
    obtain ⟨a, b, c, d⟩ := x
    show some (min a a, min b b, max c c, max d d) = _
    rw [show min a a = a by omega, show min b b = b by omega, show max c c = c by omega, show max d d = d by omega]
theorem jv_any (x y z : Option (Int × Int × Int × Int)) : jv (jv x y) z = jv x (jv z y) := by
  cases x with
  | none => cases y with
    | none => cases z <;> rfl
    | some y => cases z with
      | none => rfl
      | some z =>
        show some (min y.1 z.1, min y.2.1 z.2.1, max y.2.2.1 z.2.2.1, max y.2.2.2 z.2.2.2) = some (min z.1 y.1, min z.2.1 y.2.1, max z.2.2.1 y.2.2.1, max z.2.2.2 y.2.2.2)
        congr 1
        ext <;> simp <;> omega
  | some x => cases y with
    | none => cases z <;> rfl
    | some y => cases z with
      | none => rfl
      | some z =>
        show some (min (min x.1 y.1) z.1, min (min x.2.1 y.2.1) z.2.1, max (max x.2.2.1 y.2.2.1) z.2.2.1, max (max x.2.2.2 y.2.2.2) z.2.2.2) = some (min x.1 (min z.1 y.1), min x.2.1 (min z.2.1 y.2.1), max x.2.2.1 (max z.2.2.1 y.2.2.1), max x.2.2.2 (max z.2.2.2 y.2.2.2))
        congr 1
        ext <;> simp <;> omega

/-- what 'EnvExpand' answers -/
def ex (f : Bool) (x : Bx) (f' : Bool) (x' : Bx) : Option Bx := join (envOf f x) (envOf f' x')
theorem ex_ok {f : Bool} {x : Bx} {f' : Bool} {x' : Bx} (h : Fin4 f x) (h' : Fin4 f' x') : Ok (ex f x f' x') ∧ val (ex f x f' x') = jv (iva f x) (iva f' x') := by
  obtain ⟨h1, h2⟩ := envOf_ok h
  obtain ⟨h3, h4⟩ := envOf_ok h'
  rw [← h2, ← h4]
  exact join_ok h1 h3

theorem law_any (fa : Bool) (a : Bx) (fb : Bool) (b : Bx) (fc : Bool) (c : Bx) (ha : Fin4 fa a) (hb : Fin4 fb b) (hc : Fin4 fc c) :
    eqE (ex (fl_ (ex fa a fb b)) (bx (ex fa a fb b)) fc c) (ex fa a (fl_ (ex fc c fb b)) (bx (ex fc c fb b))) = true := by
  obtain ⟨o1, v1⟩ := ex_ok ha hb
  obtain ⟨o2, v2⟩ := ex_ok hc hb
  obtain ⟨f1, e1⟩ := pv_ok o1
  obtain ⟨f2, e2⟩ := pv_ok o2
  obtain ⟨o3, v3⟩ := ex_ok f1 hc
  obtain ⟨o4, v4⟩ := ex_ok ha f2
  refine eqE_of o3 o4 ?_
  rw [v3, v4, e1, e2, v1, v2, jv_any]
theorem law_same (fa : Bool) (a : Bx) (ha : Fin4 fa a) : eqE (ex fa a fa a) (made fa a) = true := by
  obtain ⟨o1, v1⟩ := ex_ok ha ha
  obtain ⟨o2, v2⟩ := made_ok ha
  refine eqE_of o1 o2 ?_
  rw [v1, v2, jv_same]
end Go.Proofs.Ytmgomieffmbmiaa.Ev
