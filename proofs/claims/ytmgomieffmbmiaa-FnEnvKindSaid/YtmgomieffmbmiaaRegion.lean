/-
  A region that draws its order, in phases: a stretch whose operations only read (in whatever order), then operations that come up alone, one behind the other, then such a stretch again. No program here.
-/
import Derived.Deep.QuietTactic
import Derived.Lib.QuietBelow
namespace Go.Proofs.Ytmgomieffmbmiaa
open Go

/-- of 'n' operations the first 'k' have come up -/
def upto (n k : Nat) : Array Bool := Array.replicate k true ++ Array.replicate (n - k) false

theorem upto_getD_false {n k : Nat} (_hk : k ≤ n) (j : Nat) : (upto n k).getD j false = decide (j < k) := by
  unfold upto
  rw [Array.getD_eq_getD_getElem?, Array.getElem?_append]
  by_cases h : j < k
  · simp [h]
  · by_cases h' : j - k < n - k
    · simp [h, h']
    · simp [h, h']
theorem upto_getD_true {n k : Nat} (hk : k ≤ n) (j : Nat) : (upto n k).getD j true = (decide (j < k) || decide (n ≤ j)) := by
  unfold upto
  rw [Array.getD_eq_getD_getElem?, Array.getElem?_append]
  by_cases h : j < k
  · simp [h]
  · by_cases h' : n ≤ j
    · simp [h, h', show ¬ j - k < n - k from by omega]
    · simp [h, h', show j - k < n - k from by omega]
theorem upto_set {n k : Nat} (h : k < n) : (upto n k).setIfInBounds k true = upto n (k + 1) := by
  apply Array.ext_getElem?
  intro j
  unfold upto
  rw [Array.getElem?_setIfInBounds, Array.getElem?_append, Array.getElem?_append]
  simp only [Array.size_append, Array.size_replicate, Array.getElem?_replicate]
  by_cases e : k = j
  · subst e; simp; omega
  · by_cases h1 : j < k
    · simp [h1, e, show j < k + 1 from by omega]
    · simp only [h1, e, if_false, show ¬ j < k + 1 from by omega]
      by_cases h2 : j - k < n - k
      · rw [if_pos h2, if_pos (by omega)]
      · rw [if_neg h2, if_neg (by omega)]

section
variable {P : Program} {ops : Array Oper} {Q : Exit → Act → World → Prop} {C : World → Prop}

/-- What is asked when the first 'k' operations have come up, in whatever order, and the others are still to come. -/
def Stage (P : Program) (ops : Array Oper) (Q : Exit → Act → World → Prop) (k : Nat) (a : Act) (w : World) : Prop := wpAny P .any ops Q (ops.size - k) (upto ops.size k) a w

theorem stage_start {id : Nat} {a : Act} {w : World} (hm : P.follows .mixedOrders = true) (h : Stage P ops Q 0 a { w with drawn := w.drawn + 1 }) : (Code.region id ops true).wp P Q a w := by
  refine wp_region_any hm ?_
  unfold Stage at h
  have e : upto ops.size 0 = Array.replicate ops.size false := by simp [upto]
  rwa [e] at h

theorem stage_end {k : Nat} {a : Act} {w : World} (hk : k = ops.size) (h : Q .normal a w) : Stage P ops Q k a w := by
  subst hk
  unfold Stage
  rw [Nat.sub_self]
  refine ⟨?_, h⟩
  apply List.eq_nil_iff_forall_not_mem.2
  intro i hi
  have h1 := (mem_ready.1 hi).1
  rw [upto_getD_true (Nat.le_refl _)] at h1
  simp at h1
  omega

theorem letsOut_then {K : Act → World → Prop} (h : LetsOut (Exit.then K Q)) : LetsOut Q := h

theorem upon_then {o : Oper} {a : Act} {K K' : Act → World → Prop} {K2 : Act → World → Prop} (hK : ∀ a w, K a w → K' a w) : ∀ {r : Result Next}, o.upon P a K (Exit.then K2 Q) r → o.upon P a K' Q r := by
  intro r h
  unfold Oper.upon at h ⊢
  split
  · exact hK _ _ h
  · exact hK _ _ h
  · exact hK _ _ h
  · refine Calls.mono h ?_
    intro e w' h'
    cases e with
    | returned v => exact hK _ _ h'
    | panicked c => exact h'
    | outgrown => exact letsOut_then h'
  · exact Rows.mono h (fun _ _ h' => hK _ _ h')
  · exact h
  · simp_all

/-- AN OPERATION THAT COMES UP ALONE. -/
theorem stage_one {k : Nat} {o : Oper} {a : Act} {w : World} {K2 : Act → World → Prop} (hr : Region.ready .any ops (upto ops.size k) = [k]) (ho : ops[k]? = some o)
    (h : if Region.wanted o (yielded ops a.tmps) then o.wp P a w (Stage P ops Q (k + 1)) (Exit.then K2 Q) ∨ (o.asks P a w ∧ LetsOut (Exit.then K2 Q)) else Stage P ops Q (k + 1) (a.put o.dst undef) w) : Stage P ops Q k a w := by
  have hk : k < ops.size := (Array.getElem?_eq_some_iff.1 ho).1
  unfold Stage
  rw [show ops.size - k = (ops.size - (k + 1)) + 1 from by omega]
  refine ⟨fun h0 => (by rw [hr] at h0; cases h0), fun i hi => ?_⟩
  rw [hr] at hi
  obtain rfl : i = k := by simpa using hi
  rw [upto_set hk]
  unfold wpOp
  rw [ho]
  dsimp only
  unfold Stage at h
  split
  · rename_i hw
    rw [if_pos hw] at h
    rcases h with h | ⟨h, h'⟩
    · exact Or.inl (upon_then (fun _ _ h => h) h)
    · exact Or.inr ⟨h, letsOut_then h'⟩
  · rename_i hw
    rw [if_neg hw] at h
    exact h

/-- the operations from 'k' on, 'n' of them, come up alone, one behind the other -/
def alone (ops : Array Oper) : Nat → Nat → Bool
  | 0, _ => true
  | n + 1, k => (Region.ready .any ops (upto ops.size k) == [k]) && alone ops n (k + 1)

/-- OPERATIONS THAT COME UP ALONE, ONE BEHIND THE OTHER: walked as in a region that does not draw. -/
theorem stage_list : ∀ (l : List Oper) {k m : Nat} {a : Act} {w : World}, (∀ j, j < l.length → ops[k + j]? = l[j]?) → alone ops l.length k = true → m = k + l.length →
    wpList P ops (Exit.then (Stage P ops Q m) Q) l a w → Stage P ops Q k a w := by
  intro l
  induction l with
  | nil =>
    intro k m a w _ _ hm h
    subst hm
    exact h
  | cons o rest ih =>
    intro k m a w hl hal hm h
    have ho : ops[k]? = some o := by have := hl 0 (by simp); simpa using this
    simp only [List.length_cons, alone, Bool.and_eq_true, beq_iff_eq] at hal
    have hrest : ∀ a w, wpList P ops (Exit.then (Stage P ops Q m) Q) rest a w → Stage P ops Q (k + 1) a w := fun a w h =>
      ih (fun j hj => by have := hl (j + 1) (by simp; omega); rw [show k + 1 + j = k + (j + 1) from by omega, this]; rfl) hal.2 (by simp at hm; omega) h
    refine stage_one (K2 := Stage P ops Q m) hal.1 ho ?_
    unfold wpList at h
    split
    · rename_i hw
      rw [if_pos hw] at h
      rcases h with h | h
      · exact Or.inl (Oper.wp_mono hrest h)
      · exact Or.inr h
    · rename_i hw
      rw [if_neg hw] at h
      exact hrest _ _ h

/-! ### a stretch that only reads -/

/-- what is asked of the stretch from 'k' to 'm' -/
def segB (ops : Array Oper) (k m : Nat) : Bool :=
  Region.noSelect (ops.extract 0 m) && Region.lexFrom .any (ops.extract 0 m) (m - k) k (upto m k) &&
  (List.range m).all (fun i => match ops[i]? with | none => false | some o => (match o.guard with | none => true | some (g, _) => decide (g < m)) && o.after.all (fun e => !Region.binds .any e || decide (e.on < i))) &&
  (List.range (ops.size - m - 1)).all (fun t => match ops[m + 1 + t]? with | none => false | some o => o.after.toList.any (fun e => Region.binds .any e && decide (m ≤ e.on))) &&
  (List.range m).all (fun i => decide (i < k) || decide (ops.size ≤ m) || (List.range (m - i)).any (fun t => match ops[i + 1 + t]? with | none => false | some o => o.after.toList.any (fun e => Region.binds .any e && decide (e.on = i))))

theorem getD_set (s : Array Bool) (i j : Nat) (d : Bool) (hi : i < s.size) : (s.setIfInBounds i true).getD j d = if i = j then true else s.getD j d := by
  by_cases h : i = j
  · subst h; simp [hi]
  · rw [getD_set_ne d h, if_neg h]

theorem append_getD (s : Array Bool) (r j : Nat) (d : Bool) : (s ++ Array.replicate r false).getD j d = if j < s.size then s.getD j d else if j < s.size + r then false else d := by
  rw [Array.getD_eq_getD_getElem?, Array.getElem?_append]
  by_cases h : j < s.size
  · simp [h]
  · by_cases h' : j - s.size < r
    · simp [h, h', show j < s.size + r from by omega]
    · simp [h, h', show ¬ j < s.size + r from by omega]

theorem set_append (s : Array Bool) (r i : Nat) (h : i < s.size) : (s ++ Array.replicate r false).setIfInBounds i true = s.setIfInBounds i true ++ Array.replicate r false := by
  apply Array.ext_getElem?
  intro j
  rw [Array.getElem?_setIfInBounds, Array.getElem?_append, Array.getElem?_append]
  simp only [Array.size_append, Array.size_setIfInBounds, Array.getElem?_setIfInBounds, Array.size_replicate]
  by_cases e : i = j
  · subst e; simp [h]; omega
  · simp [e]

theorem yielded_extract {ops : Array Oper} {m g : Nat} (tmps : Array Value) (h : g < m) : yielded (ops.extract 0 m) tmps g = yielded ops tmps g := by
  have e : (ops.extract 0 m)[g]? = ops[g]? := by
    rw [Array.getElem?_extract]
    by_cases hs : g < min m ops.size - 0
    · rw [if_pos hs]; simp
    · rw [if_neg hs, Array.getElem?_eq_none (by omega)]
  unfold yielded
  rw [e]

theorem wanted_extract {ops : Array Oper} {m : Nat} {o : Oper} (tmps : Array Value) (h : (match o.guard with | none => true | some (g, _) => decide (g < m)) = true) :
    Region.wanted o (yielded (ops.extract 0 m) tmps) = Region.wanted o (yielded ops tmps) := by
  unfold Region.wanted
  cases hg : o.guard with
  | none => rfl
  | some p =>
    obtain ⟨g, b⟩ := p
    rw [hg] at h
    dsimp only
    rw [yielded_extract tmps (by simpa using h)]

theorem extract_at {ops : Array Oper} {m i : Nat} (h : i < m) : (ops.extract 0 m)[i]? = ops[i]? := by
  rw [Array.getElem?_extract]
  by_cases hs : i < min m ops.size - 0
  · rw [if_pos hs]; simp
  · rw [if_neg hs, Array.getElem?_eq_none (by omega)]

section
variable {k m : Nat}
theorem segB_guard (h : segB ops k m = true) {i : Nat} {o : Oper} (hi : i < m) (ho : ops[i]? = some o) : (match o.guard with | none => true | some (g, _) => decide (g < m)) = true := by
  unfold segB at h
  simp only [Bool.and_eq_true] at h
  have := List.all_eq_true.1 h.1.1.2 i (List.mem_range.2 hi)
  rw [ho] at this
  simp only [Bool.and_eq_true] at this
  exact this.1
theorem segB_down (h : segB ops k m = true) {i : Nat} {o : Oper} (hi : i < m) (ho : ops[i]? = some o) {e : Edge} (he : e ∈ o.after) (hb : Region.binds .any e = true) : e.on < i := by
  unfold segB at h
  simp only [Bool.and_eq_true] at h
  have := List.all_eq_true.1 h.1.1.2 i (List.mem_range.2 hi)
  rw [ho] at this
  simp only [Bool.and_eq_true] at this
  have := Array.all_eq_true_iff_forall_mem.1 this.2 e he
  simpa [hb] using this
theorem segB_some (h : segB ops k m = true) {i : Nat} (hi : i < m) : ∃ o, ops[i]? = some o := by
  unfold segB at h
  simp only [Bool.and_eq_true] at h
  have := List.all_eq_true.1 h.1.1.2 i (List.mem_range.2 hi)
  cases ho : ops[i]? with
  | none => rw [ho] at this; cases this
  | some o => exact ⟨o, rfl⟩
theorem segB_later (h : segB ops k m = true) {i : Nat} {o : Oper} (hi : m < i) (ho : ops[i]? = some o) : ∃ e ∈ o.after, Region.binds .any e = true ∧ m ≤ e.on := by
  have hlt : i < ops.size := (Array.getElem?_eq_some_iff.1 ho).1
  unfold segB at h
  simp only [Bool.and_eq_true] at h
  have := List.all_eq_true.1 h.1.2 (i - m - 1) (List.mem_range.2 (by omega))
  rw [show m + 1 + (i - m - 1) = i from by omega, ho] at this
  obtain ⟨e, he, h'⟩ := List.any_eq_true.1 this
  simp only [Bool.and_eq_true, decide_eq_true_eq] at h'
  exact ⟨e, Array.mem_toList_iff.1 he, h'⟩
theorem segB_next (h : segB ops k m = true) {i : Nat} (hi : i < m) (hk : k ≤ i) (hm : m < ops.size) : ∃ s o, i < s ∧ s ≤ m ∧ ops[s]? = some o ∧ ∃ e ∈ o.after, Region.binds .any e = true ∧ e.on = i := by
  unfold segB at h
  simp only [Bool.and_eq_true] at h
  have := List.all_eq_true.1 h.2 i (List.mem_range.2 hi)
  rw [decide_eq_false (by omega), decide_eq_false (by omega)] at this
  simp only [Bool.false_or] at this
  obtain ⟨t, ht, h'⟩ := List.any_eq_true.1 this
  have ht := List.mem_range.1 ht
  cases ho : ops[i + 1 + t]? with
  | none => rw [ho] at h'; cases h'
  | some o =>
    rw [ho] at h'
    obtain ⟨e, he, h'⟩ := List.any_eq_true.1 h'
    simp only [Bool.and_eq_true, decide_eq_true_eq] at h'
    exact ⟨i + 1 + t, o, by omega, by omega, ho, e, Array.mem_toList_iff.1 he, h'⟩

/-- what has come up has come up behind what it waits for -/
def Shut' (ops : Array Oper) (m : Nat) (s : Array Bool) : Prop := ∀ j o, j < m → ops[j]? = some o → s.getD j false = true → ∀ e ∈ o.after, Region.binds .any e = true → s.getD e.on false = true

/-- while the stretch has not come up whole, nothing behind it does -/
theorem seg_ready (h : segB ops k m = true) (hm : m ≤ ops.size) {s : Array Bool} (hs : s.size = m) (hd : Shut' ops m s) (hk : ∀ i, i < k → s.getD i false = true) {i0 : Nat} (hi0 : i0 < m) (hu : s.getD i0 false = false) {i : Nat}
    (hi : i ∈ Region.ready .any ops (s ++ Array.replicate (ops.size - m) false)) : i < m ∧ i ∈ Region.ready .any (ops.extract 0 m) s := by
  obtain ⟨h1, o, ho, hall⟩ := mem_ready.1 hi
  have hgo : ∀ e ∈ o.after, Region.binds .any e = true → e.on < m ∧ s.getD e.on false = true := fun e he hb => by
    have := hall e he hb
    rw [append_getD, hs] at this
    by_cases hlt : e.on < m
    · rw [if_pos hlt] at this; exact ⟨hlt, this⟩
    · rw [if_neg hlt] at this; split at this <;> cases this
  have hlt : i < m := by
    apply Classical.byContradiction
    intro hge
    by_cases him : i = m
    · subst him
      -- the chain of those that wait for 'i0' ends at 'm'
      have chain : ∀ n j, i - j = n → j < i → s.getD j false = false → False := by
        intro n
        induction n using Nat.strongRecOn with
        | ind n ih =>
          intro j hn hj hju
          have hkj : k ≤ j := by
            apply Classical.byContradiction
            intro hc
            rw [hk j (by omega)] at hju; cases hju
          obtain ⟨s', o', h1', h2', h3', e, he, hb, heq⟩ := segB_next h hj hkj (Array.getElem?_eq_some_iff.1 ho).1
          by_cases hsi : s' = i
          · subst hsi
            rw [ho] at h3'; cases h3'
            have := (hgo e he hb).2
            rw [heq, hju] at this; cases this
          · have hs'u : s.getD s' false = false := by
              cases hc : s.getD s' false
              · rfl
              · have := hd s' o' (by omega) h3' hc e he hb
                rw [heq, hju] at this; cases this
            exact ih (i - s') (by omega) s' rfl (by omega) hs'u
      exact chain _ i0 rfl hi0 hu
    · obtain ⟨e, he, hb, hme⟩ := segB_later h (show m < i from by omega) ho
      have := (hgo e he hb).1
      omega
  refine ⟨hlt, mem_ready.2 ⟨?_, o, by rw [extract_at hlt]; exact ho, fun e he hb => (hgo e he hb).2⟩⟩
  rw [append_getD, hs, if_pos hlt] at h1
  exact h1

theorem all_up {s : Array Bool} (hs : s.size = m) (h : ∀ i, i < m → s.getD i false = true) : s = Array.replicate m true := by
  apply Array.ext_getElem?
  intro j
  rw [Array.getElem?_replicate]
  by_cases hj : j < m
  · rw [if_pos hj]
    have := h j hj
    rw [Array.getD_eq_getD_getElem?, Array.getElem?_eq_getElem (by omega)] at this
    rw [Array.getElem?_eq_getElem (by omega)]
    simpa using this
  · rw [if_neg hj, Array.getElem?_eq_none (by omega)]

theorem seg_any (h : segB ops k m = true) (hm : m ≤ ops.size) {Q1 : Act → Prop} (hend : ∀ a w, C w → Q1 a → Stage P ops Q m a w) : ∀ (fuel : Nat) (s : Array Bool) (a : Act) (w : World),
    s.size = m → Shut' ops m s → (∀ i, i < k → s.getD i false = true) → s.toList.count false = fuel → C w →
    wpAnyQ P .any (ops.extract 0 m) C Q1 fuel s a → wpAny P .any ops Q (fuel + (ops.size - m)) (s ++ Array.replicate (ops.size - m) false) a w := by
  intro fuel
  induction fuel with
  | zero =>
    intro s a w hs hd hk hc hw hq
    have hs' : s = Array.replicate m true := all_up hs fun i hi => by
      have hn := List.count_eq_zero.1 hc
      rw [Array.getD_eq_getD_getElem?, Array.getElem?_eq_getElem (by omega)]
      cases hb : s[i] with
      | true => rfl
      | false => exact absurd (by rw [← hb]; exact Array.getElem_mem_toList (by omega)) hn
    have := hend a w hw hq.2
    unfold Stage upto at this
    rw [Nat.zero_add, hs']
    exact this
  | succ fuel ih =>
    intro s a w hs hd hk hc hw hq
    -- something has not come up yet
    have hex : ∃ i0, i0 < m ∧ s.getD i0 false = false := by
      have hmem : false ∈ s.toList := List.count_pos_iff.1 (by omega)
      obtain ⟨i0, hi0, he⟩ := List.getElem_of_mem hmem
      refine ⟨i0, by simpa [hs] using hi0, ?_⟩
      rw [Array.getD_eq_getD_getElem?, Array.getElem?_eq_getElem (by simpa using hi0)]
      simpa using he
    obtain ⟨i0, hi0, hu⟩ := hex
    rw [show fuel + 1 + (ops.size - m) = fuel + (ops.size - m) + 1 from by omega]
    refine ⟨fun hnil => ?_, fun i hi => ?_⟩
    · -- the least that has not come up is ready
      exfalso
      have least : ∀ n j, j = n → j < m → s.getD j false = false → ∃ i, i ∈ Region.ready .any ops (s ++ Array.replicate (ops.size - m) false) := by
        intro n
        induction n using Nat.strongRecOn with
        | ind n ihn =>
          intro j hj hjm hju
          obtain ⟨o, ho⟩ := segB_some h hjm
          by_cases hall : ∀ e ∈ o.after, Region.binds .any e = true → s.getD e.on false = true
          · refine ⟨j, mem_ready.2 ⟨?_, o, ho, fun e he hb => ?_⟩⟩
            · rw [append_getD, hs, if_pos hjm]
              rw [Array.getD_eq_getD_getElem?, Array.getElem?_eq_getElem (by omega)] at hju ⊢
              exact hju
            · have := segB_down h hjm ho he hb
              rw [append_getD, hs, if_pos (by omega)]
              exact hall e he hb
          · have : ∃ e, e ∈ o.after ∧ Region.binds .any e = true ∧ ¬ s.getD e.on false = true := by
              apply Classical.byContradiction
              intro hc
              exact hall fun e he hb => Classical.byContradiction fun hn => hc ⟨e, he, hb, hn⟩
            obtain ⟨e, he, hb, hn⟩ := this
            have hlt := segB_down h hjm ho he hb
            exact ihn e.on (by omega) e.on rfl (by omega) (by simpa using hn)
      obtain ⟨i, hi⟩ := least _ i0 rfl hi0 hu
      rw [hnil] at hi; cases hi
    · obtain ⟨him, hi1⟩ := seg_ready h hm hs hd hk hi0 hu hi
      obtain ⟨o, ho⟩ := segB_some h him
      have hunl : s.getD i true = false := (mem_ready.1 hi1).1
      have hunl' : s[i]? = some false := by
        rw [Array.getD_eq_getD_getElem?, Array.getElem?_eq_getElem (by omega)] at hunl
        rw [Array.getElem?_eq_getElem (by omega)]
        simpa using hunl
      have hcount : (s.setIfInBounds i true).toList.count false = fuel := by
        rw [Array.toList_setIfInBounds, List.count_set (by simpa [hs] using him)]
        have hget : s.toList[i]'(by simpa [hs] using him) = false := by
          have := Array.getElem?_eq_some_iff.1 hunl'
          obtain ⟨hlt, he⟩ := this
          simpa using he
        rw [hget, hc]
        simp
      have hd' : Shut' ops m (s.setIfInBounds i true) := by
        intro j oj hj hoj hjl e he hb
        rw [getD_set s i j false (by omega)] at hjl
        rw [getD_set s i e.on false (by omega)]
        by_cases hie : i = e.on
        · rw [if_pos hie]
        · rw [if_neg hie]
          by_cases hij : i = j
          · subst hij
            obtain ⟨_, o', ho', hall⟩ := mem_ready.1 hi1
            rw [extract_at him, hoj] at ho'
            cases ho'
            exact hall e he hb
          · rw [if_neg hij] at hjl
            exact hd j oj hj hoj hjl e he hb
      have hk' : ∀ j, j < k → (s.setIfInBounds i true).getD j false = true := fun j hj => by
        rw [getD_set s i j false (by omega)]
        split
        · rfl
        · exact hk j hj
      have hqi := hq.2 i hi1
      have hop := wpOp_of_qOp (Q' := Q) (K' := wpAny P .any ops Q (fuel + (ops.size - m)) (s.setIfInBounds i true ++ Array.replicate (ops.size - m) false)) hw
        (fun a' w' hw' hK => ih _ a' w' (by simpa using hs) hd' hk' hcount hw' hK) hqi
      rw [set_append s _ i (by omega)]
      unfold wpOp at hop ⊢
      rw [extract_at him] at hop
      rw [ho] at hop ⊢
      dsimp only at hop ⊢
      rw [wanted_extract a.tmps (segB_guard h him ho)] at hop
      exact hop

theorem wpQuiet_extract (h : segB ops k m = true) {Q1 : Act → Prop} : ∀ (l : List Oper) (i : Nat) (a : Act), (∀ j, j < l.length → ops[i + j]? = l[j]?) → i + l.length ≤ m →
    wpQuiet P ops C Q1 l a → wpQuiet P (ops.extract 0 m) C Q1 l a := by
  intro l
  induction l with
  | nil => intro i a _ _ hq; exact hq
  | cons o rest ih =>
    intro i a hl hm hq
    simp only [List.length_cons] at hm
    have ho : ops[i]? = some o := by have := hl 0 (by simp); simpa using this
    have hrest : ∀ a, wpQuiet P ops C Q1 rest a → wpQuiet P (ops.extract 0 m) C Q1 rest a := fun a hq =>
      ih (i + 1) a (fun j hj => by have := hl (j + 1) (by simp; omega); rw [show i + 1 + j = i + (j + 1) from by omega, this]; rfl) (by omega) hq
    unfold wpQuiet at hq ⊢
    rw [wanted_extract a.tmps (segB_guard h (show i < m from by omega) ho)]
    split
    · rename_i hw; rw [if_pos hw] at hq; exact Oper.quiet_mono hrest hq
    · rename_i hw; rw [if_neg hw] at hq; exact hrest _ hq

/-- A STRETCH THAT ONLY READS, from 'k' to 'm': walked once, in the order of the text. -/
theorem stage_quiet {l : List Oper} {a : Act} {w : World} (h : segB ops k m = true) (hm : m ≤ ops.size) (hlen : m = k + l.length) (hl : ∀ j, j < l.length → ops[k + j]? = l[j]?) (hC : C w)
    (hq : wpQuiet P ops C (fun a' => ∀ w', C w' → Stage P ops Q m a' w') l a) : Stage P ops Q k a w := by
  have h2 := wpQuiet_extract h l k a hl (by omega) hq
  have hB := h
  unfold segB at hB
  simp only [Bool.and_eq_true] at hB
  have hkm : k ≤ m := by omega
  have h3 := wpAnyQ_lex (md := .any) hB.1.1.1.1 l k (upto m k) a (fun j => by
    by_cases hj : j < l.length
    · rw [extract_at (by omega), hl j hj]
    · rw [List.getElem?_eq_none (by omega), Array.getElem?_eq_none (by simp; omega)]) (by rw [show l.length = m - k from by omega]; exact hB.1.1.1.2) h2
  have h4 := seg_any h hm (fun a w hw hq => hq w hw) l.length (upto m k) a w (by simp [upto]; omega) (by
    intro j o hj ho hjl e he hb
    rw [upto_getD_false hkm] at hjl ⊢
    have := segB_down h hj ho he hb
    simp at hjl ⊢
    omega) (fun i hi => by rw [upto_getD_false hkm]; simpa using hi) (by simp [upto, List.count_replicate]; omega) hC h3
  unfold Stage
  have e1 : l.length + (ops.size - m) = ops.size - k := by omega
  have e2 : upto m k ++ Array.replicate (ops.size - m) false = upto ops.size k := by
    unfold upto
    rw [Array.append_assoc, Array.replicate_append_replicate]
    congr 2
    omega
  rwa [e1, e2] at h4
end
end
/-- one operation of a quiet walk (the list is a variable: else Lean would run the list of operations while it looks whether the law fits) -/
theorem quiet_cons {P : Program} {ops : Array Oper} {C : World → Prop} {Q : Act → Prop} {l : List Oper} {a : Act} {o : Oper} {rest : List Oper} (hl : l = o :: rest)
    (h : ∀ K : Act → Prop, (∀ a, wpQuiet P ops C Q rest a → K a) → if Region.wanted o (yielded ops a.tmps) then o.quiet P a C K else K (a.put o.dst undef)) : wpQuiet P ops C Q l a := by
  subst hl; exact wpQuiet_step h
theorem quiet_nil {P : Program} {ops : Array Oper} {C : World → Prop} {Q : Act → Prop} {l : List Oper} {a : Act} (hl : l = []) (h : Q a) : wpQuiet P ops C Q l a := by
  subst hl; exact wpQuiet_nil h
attribute [irreducible] Stage
end Go.Proofs.Ytmgomieffmbmiaa
