/-
  Geometries as data: how the package's plain geometry (a kind, a type, numbers, parts) lies in memory, and how an argument of that type reads.
-/
import Derived.Test.YtmdllkjlbalbpaaWalk
import Derived.Test.YtmdllkjlbalbpaaOpen
import Derived.OpenShut
import Derived.Deep.Fields
namespace Go.Proofs.Ytmdllkjlbalbpaa
open Go.ChangeShapes Go.WideShapes Go.ChangeAt Go.RowKit Go.Joins Go.Deep

/-! ### rows of cells -/
/-- a slice's cells; it lies below block 'B' -/
def Row (w : World) (B : Nat) (A : Option Addr) (xs : List Value) : Prop :=
  xs = [] ∨ ∃ b o, A = some ⟨b, o, none⟩ ∧ b < B ∧ ∀ j (h : j < xs.length), w.cell? ⟨b, o + j, none⟩ = some xs[j]

theorem Row.keep {w w' : World} {B B' : Nat} {A : Option Addr} {xs : List Value} (h : Row w B A xs) (hB : B ≤ B') (hc : ∀ p : Addr, p.block < B → w'.cell? p = w.cell? p) : Row w' B' A xs := by
  rcases h with rfl | ⟨b, o, rfl, hb, hcell⟩
  · exact Or.inl rfl
  · exact Or.inr ⟨b, o, rfl, by omega, fun j hj => (hc _ hb).trans (hcell j hj)⟩
theorem Row.below {w w' : World} {B : Nat} {A : Option Addr} {xs : List Value} (h : Row w B A xs) (hb : Below B w w') : Row w' B A xs := h.keep (Nat.le_refl _) fun _ hp => hb.cell hp
theorem Row.nil {w : World} {B : Nat} {A : Option Addr} : Row w B A [] := Or.inl rfl
theorem Row.at_ {w : World} {B : Nat} {A : Option Addr} {xs : List Value} (h : Row w B A xs) (hn : 0 < xs.length) : ∃ b o, A = some ⟨b, o, none⟩ ∧ b < B ∧ ∀ j (h : j < xs.length), w.cell? ⟨b, o + j, none⟩ = some xs[j] := by
  rcases h with rfl | h
  · simp at hn
  · exact h

theorem spot_of {w : World} {ad : Addr} {u : Value} (h : w.cell? ad = some u) : ad.spot = none := World.cell?_spot h

theorem addr_add {b o : Nat} (j : Nat) : (⟨b, o, none⟩ : Addr).add j = ⟨b, o + j, none⟩ := by unfold Addr.add; split <;> simp_all
theorem add_spot {ad : Addr} (h : (ad.add 0).spot = none) : ad.spot = none := by
  unfold Addr.add at h; simpa using h

theorem lt_of {α : Type} {l : List α} {n j : Nat} (h : l.length = n) (hj : j < l.length) : j < n := by omega

/-! ### geometries -/
inductive G where
  | mk (kind dim : Int) (nums : List Nat) (kids : List G)

abbrev fl (x : Nat) : Value := .float .f64 x
/-- a kind or a type is an int -/
def I64 (x : Int) : Prop := -9223372036854775808 ≤ x ∧ x ≤ 9223372036854775807

/-- the four cells of a geometry -/
inductive IsG (w : World) (BB : Nat) : List Value → G → Prop where
  | mk (k d : Int) (A B : Option Addr) (n c m e : Nat) (nums : List Nat) (kids : List G) (cells : List Value)
    (hk : I64 k) (hd : I64 d) (hn : nums.length = n) (hc : n ≤ c) (hcm : c ≤ maxLen) (hA : Row w BB A (nums.map fl)) (hfl : ∀ x ∈ nums, (Lit.float .f64 x).wf = true) (hAc : A = none → c = 0)
    (hm : kids.length = m) (he : m ≤ e) (hem : e ≤ maxLen) (hl : cells.length = 4 * m) (hB : Row w BB B cells)
    (hK : ∀ i g, kids[i]? = some g → IsG w BB ((cells.drop (4 * i)).take 4) g) :
    IsG w BB [.int .i64 k, .int .i64 d, .slice A n c, .slice B m e] (.mk k d nums kids)

theorem IsG.keep {w w' : World} {BB BB' : Nat} {cs : List Value} {g : G} (h : IsG w BB cs g) (hB : BB ≤ BB') (hc : ∀ p : Addr, p.block < BB → w'.cell? p = w.cell? p) : IsG w' BB' cs g := by
  induction h with
  | mk k d A B n c m e nums kids cells hk hd hn hnc hcm hA hfl hAc hm he hem hl hBr hK ih =>
    exact IsG.mk k d A B n c m e nums kids cells hk hd hn hnc hcm (hA.keep hB hc) hfl hAc hm he hem hl (hBr.keep hB hc) ih
theorem IsG.under {w w' : World} {BB : Nat} {cs : List Value} {g : G} (h : IsG w BB cs g) (hb : Below BB w w') : IsG w' BB cs g := h.keep (Nat.le_refl _) fun _ hp => hb.cell hp

section
variable {H : Type} {enc : TypeId × Value → H} {P : Program} {w : World} {base : Nat} {spare : Nat → Bool} {held : Bool}
theorem fields4 {fuel : Nat} {t : TypeId} {f0 f1 f2 f3 : Field} {cs : List Value} {x : DataW H × List MemPlace} (hs : P.underlying t = some (.struct #[f0, f1, f2, f3])) (hone : oneCellFields P #[f0, f1, f2, f3] = true) (hC : P.cellsOf t = 4)
    (h : DataW.trod enc P w base spare held fuel t cs = some x) :
    ∃ (v0 v1 v2 v3 : Value) (y0 y1 y2 y3 : DataW H × List MemPlace) (n : Nat), cs = [v0, v1, v2, v3] ∧ fuel = n + 1 ∧
      DataW.trod enc P w base spare held n f0.type [v0] = some y0 ∧ DataW.trod enc P w base spare held n f1.type [v1] = some y1 ∧ DataW.trod enc P w base spare held n f2.type [v2] = some y2 ∧ DataW.trod enc P w base spare held n f3.type [v3] = some y3 := by
  obtain ⟨xs, n, hn, -, hlen, hxl, hg⟩ := DataW.trod_struct hs h
  rw [hC] at hlen
  obtain ⟨o0, k0⟩ := hone_of hone 0 f0 rfl
  obtain ⟨o1, k1⟩ := hone_of hone 1 f1 rfl
  obtain ⟨o2, k2⟩ := hone_of hone 2 f2 rfl
  obtain ⟨o3, k3⟩ := hone_of hone 3 f3 rfl
  match cs, hlen with
  | [c0, c1, c2, c3], _ =>
    match xs, hxl with
    | [y0, y1, y2, y3], _ =>
      exact ⟨c0, c1, c2, c3, y0, y1, y2, y3, n, rfl, hn, by simpa [o0, k0] using hg 0 f0 rfl, by simpa [o1, k1] using hg 1 f1 rfl, by simpa [o2, k2] using hg 2 f2 rfl, by simpa [o3, k3] using hg 3 f3 rfl⟩
end

section
variable {H : Type} {enc : TypeId × Value → H} {w : World} {base : Nat} {held : Bool}

/-- a slice of floats -/
theorem open_floats {cs : List Value} {fuel : Nat} {x : DataW H × List MemPlace} (h : DataW.trod enc Try.prog w base (fun _ => true) held fuel 49 cs = some x) :
    ∃ (A : Option Addr) (n c : Nat) (nums : List Nat), cs = [.slice A n c] ∧ nums.length = n ∧ n ≤ c ∧ c ≤ maxLen ∧ Row w w.heap.size A (nums.map fl) ∧ (∀ x ∈ nums, (Lit.float .f64 x).wf = true) ∧ (A = none → c = 0) := by
  rcases open_slice1 Try.underlying49 (by kernel_rfl) h with ⟨rfl, _⟩ | ⟨a, len, cap, m, n, V, D, Pl, rfl, hb, hl, hm, hmm, _, hV⟩
  · exact ⟨none, 0, 0, [], rfl, rfl, Nat.le_refl _, Nat.zero_le _, Row.nil, by simp, fun _ => rfl⟩
  · have hmc : m = cap := by simpa using hmm
    subst hmc
    have hV' : ∀ i, i < m → ∃ x : Nat, w.cell? (a.add i) = some (fl x) ∧ (Lit.float .f64 x).wf = true := fun i hi => by
      obtain ⟨h1, h2⟩ := hV i hi
      obtain ⟨b, e1, -, e2⟩ := trod_float Try.underlying30 h2
      simp at e1
      exact ⟨b, by rw [h1, e1], e2⟩
    obtain ⟨X, hX⟩ := choose_lt hV'
    refine ⟨some a, len, m, (List.range len).map X, rfl, by simp, hl, hm, ?_, ?_, by simp⟩
    · by_cases h0 : len = 0
      · subst h0; exact Row.nil
      · obtain ⟨b, o, s⟩ := a
        have hs : s = none := by
          have := spot_of (hX 0 (by omega)).1
          exact add_spot this
        subst hs
        refine Or.inr ⟨b, o, rfl, ?_, fun j hj => ?_⟩
        · have := World.block_lt_of_cell? _ _ (hX 0 (by omega)).1
          rw [addr_add] at this
          exact this
        · simp at hj
          have := (hX j (by omega)).1
          rw [addr_add] at this
          rw [this]
          simp
    · intro x hx
      simp only [List.mem_map, List.mem_range] at hx
      obtain ⟨i, hi, rfl⟩ := hx
      exact (hX i (by omega)).2

set_option maxRecDepth 100000 in
/-- a geometry, with all its parts -/
theorem open_geom : ∀ (fuel : Nat) (cs : List Value) (x : DataW H × List MemPlace), DataW.trod enc Try.prog w base (fun _ => true) held fuel 52 cs = some x → ∃ g, IsG w w.heap.size cs g := by
  intro fuel
  induction fuel using Nat.strongRecOn with
  | ind fuel ih =>
    intro cs x h
    obtain ⟨v0, v1, v2, v3, y0, y1, y2, y3, n, rfl, hn, h0, h1, h2, h3⟩ := fields4 Try.underlying52 (by kernel_rfl) (by kernel_rfl) h
    have c4 : Try.prog.cellsOf 52 = 4 := by kernel_rfl
    · skip
      obtain ⟨k, ek, -, wk⟩ := DataW.trod_int Try.underlying3 h0
      obtain ⟨d, ed, -, wd⟩ := DataW.trod_int Try.underlying3 h1
      obtain ⟨A, na, ca, nums, eA, hna, hnc, hcm, hA, hfl, hAc⟩ := open_floats h2
      simp only [List.cons.injEq, and_true] at ek ed eA
      subst ek ed eA
      have hk : I64 k := by simp [Lit.wf, IntKind.min, IntKind.max, IntKind.bits, IntKind.signed] at wk; exact wk
      have hd : I64 d := by simp [Lit.wf, IntKind.min, IntKind.max, IntKind.bits, IntKind.signed] at wd; exact wd
      rcases DataW.trod_slice Try.underlying50 h3 with ⟨eB, _⟩ | ⟨a, len, cap, elems, rest, n', hn', eB, _, hb, hlc, hcm', hel, hE, _, _⟩
      · simp only [List.cons.injEq, and_true] at eB
        subst eB
        exact ⟨_, IsG.mk k d A none na ca 0 0 nums [] [] hk hd hna hnc hcm hA hfl hAc rfl (Nat.le_refl _) (Nat.zero_le _) rfl Row.nil (by simp)⟩
      · simp only [List.cons.injEq, and_true] at eB
        subst eB
        rw [c4] at hE
        have hE' : ∀ i, i < len → ∃ (q : List Value × G), q.1.length = 4 ∧ (∀ j (hj : j < q.1.length), w.cell? ((a.add (i * 4)).add j) = some q.1[j]) ∧ IsG w w.heap.size q.1 q.2 := by
          intro i hi
          have h := hE i hi
          rw [List.getElem?_eq_getElem (by omega)] at h
          cases hcs : w.cells? base (a.add (i * 4)) 4 with
          | none => rw [hcs] at h; simp at h
          | some cs' =>
            rw [hcs] at h
            obtain ⟨_, hcl, hat⟩ := World.cells?_some hcs
            obtain ⟨g, hg⟩ := ih n' (by omega) cs' _ h
            exact ⟨(cs', g), hcl, fun j hj => (hat j (lt_of hcl hj)).trans (List.getElem?_eq_getElem hj), hg⟩
        have hne : ∀ i, i < len → ∃ (q : Option (List Value × G)), ∃ r, q = some r ∧ r.1.length = 4 ∧ (∀ j (hj : j < r.1.length), w.cell? ((a.add (i * 4)).add j) = some r.1[j]) ∧ IsG w w.heap.size r.1 r.2 := fun i hi => by
          obtain ⟨r, hr⟩ := hE' i hi
          exact ⟨some r, r, rfl, hr⟩
        obtain ⟨Q, hQ⟩ := choose_lt hne
        obtain ⟨R, hQ'⟩ : ∃ R : Nat → List Value × G, ∀ i, i < len → ((R i).1.length = 4 ∧ (∀ j (hj : j < (R i).1.length), w.cell? ((a.add (i * 4)).add j) = some (R i).1[j]) ∧ IsG w w.heap.size (R i).1 (R i).2) := by
          refine ⟨fun i => (Q i).getD ([], .mk 0 0 [] []), fun i hi => ?_⟩
          obtain ⟨r, hr, h⟩ := hQ i hi
          dsimp only
          rw [hr]
          exact h
        clear hQ hne hE' hE Q
        have hV : ∀ t, t < 4 * len → ∃ u, (R (t / 4)).1[t % 4]? = some u ∧ w.cell? ((a.add (t / 4 * 4)).add (t % 4)) = some u := fun t ht => by
          obtain ⟨h1, h2, -⟩ := hQ' (t / 4) (by omega)
          exact ⟨_, List.getElem?_eq_getElem (by omega), h2 (t % 4) (by omega)⟩
        refine ⟨_, IsG.mk k d A (some a) na ca len cap nums ((List.range len).map fun i => (R i).2) ((List.range (4 * len)).map fun t => ((R (t / 4)).1[t % 4]?).getD .nilIface) hk hd hna hnc hcm hA hfl hAc (by simp) hlc hcm' (by simp) ?_ ?_⟩
        · by_cases hl0 : len = 0
          · subst hl0; exact Row.nil
          · obtain ⟨b, o, s⟩ := a
            have h00 := (hV 0 (by omega)).choose_spec.2
            have hs : s = none := add_spot (ad := ⟨b, o, s⟩) (by have := spot_of h00; simpa [Addr.add] using this)
            subst hs
            refine Or.inr ⟨b, o, rfl, ?_, fun t ht => ?_⟩
            · have := World.block_lt_of_cell? _ _ h00
              simpa [addr_add] using this
            · simp at ht
              obtain ⟨u, hu, hc⟩ := hV t ht
              rw [addr_add, addr_add, show o + t / 4 * 4 + t % 4 = o + t from by omega] at hc
              simp [hu, hc]
        · intro i g hg
          simp only [List.getElem?_map, Option.map_eq_some_iff] at hg
          obtain ⟨i', hi', rfl⟩ := hg
          obtain ⟨hil, rfl⟩ := List.getElem?_eq_some_iff.mp hi'
          simp at hil
          obtain ⟨h1, h2, h3⟩ := hQ' i hil
          have e : List.take 4 (List.drop (4 * i) ((List.range (4 * len)).map fun t => ((R (t / 4)).1[t % 4]?).getD .nilIface)) = (R i).1 := by
            refine List.ext_getElem (by simp [h1]; omega) fun j hj hj' => ?_
            simp only [List.getElem_take, List.getElem_drop, List.getElem_map, List.getElem_range]
            rw [show (4 * i + j) / 4 = i from by omega, show (4 * i + j) % 4 = j from by omega, List.getElem?_eq_getElem hj']
            rfl
          rw [e]
          simpa using h3
end
end Go.Proofs.Ytmdllkjlbalbpaa
