/-
  The order of directions as the package reckons it, on whole vectors: it is a strict order. Plain: no program here.
-/
namespace Go.Proofs.Ytmdllkjlbalbpaa.Radial

/-- the order as the package reckons it -/
def rl (ax ay bx bY : Int) : Bool :=
  if 0 ≤ ax ∧ bx < 0 then true else if ax < 0 ∧ 0 ≤ bx then false else
  if ax = 0 ∧ bx = 0 then (if 0 ≤ ay ∨ 0 ≤ bY then decide (ay < bY) else decide (bY < ay)) else
  if ax * bY - ay * bx = 0 then decide (ax * ax + ay * ay < bx * bx + bY * bY) else decide (0 < ax * bY - ay * bx)

/-- the class of a direction: down, to the right, up, to the left -/
def cls (x y : Int) : Int := if x < 0 then 2 else if x = 0 then (if y < 0 then -1 else 1) else 0

/-- two directions of one open half -/
def S (ax ay bx bY : Int) : Prop := 0 < ax * bY - ay * bx ∨ (ax * bY - ay * bx = 0 ∧ ax * ax + ay * ay < bx * bx + bY * bY)

theorem S_trans {ax ay bx bY cx cy : Int} (ha : 0 < ax) (hb : 0 < bx) (hc : 0 < cx) (h1 : S ax ay bx bY) (h2 : S bx bY cx cy) : S ax ay cx cy := by
  unfold S at *
  have e : (ax * cy - ay * cx) * bx = (ax * bY - ay * bx) * cx + (bx * cy - bY * cx) * ax := by grind
  rcases h1 with h1 | ⟨h1, h1'⟩ <;> rcases h2 with h2 | ⟨h2, h2'⟩
  · left
    have p1 := Int.mul_pos h1 hc
    have p2 := Int.mul_pos h2 ha
    exact Int.pos_of_mul_pos_left (a := ax * cy - ay * cx) (b := bx) (by omega) hb
  · left
    have p1 := Int.mul_pos h1 hc
    rw [h2, Int.zero_mul] at e
    exact Int.pos_of_mul_pos_left (a := ax * cy - ay * cx) (b := bx) (by omega) hb
  · left
    have p2 := Int.mul_pos h2 ha
    rw [h1, Int.zero_mul] at e
    exact Int.pos_of_mul_pos_left (a := ax * cy - ay * cx) (b := bx) (by omega) hb
  · right
    rw [h1, h2, Int.zero_mul, Int.zero_mul] at e
    refine ⟨?_, by omega⟩
    rcases Int.mul_eq_zero.1 (show (ax * cy - ay * cx) * bx = 0 from by omega) with h | h
    · exact h
    · omega

theorem S_total {ax ay bx bY : Int} (ha : 0 < ax) (hb : 0 < bx) (hne : ¬ (ax = bx ∧ ay = bY)) : (S ax ay bx bY ∧ ¬ S bx bY ax ay) ∨ (¬ S ax ay bx bY ∧ S bx bY ax ay) := by
  unfold S
  have e : bx * ay - bY * ax = -(ax * bY - ay * bx) := by grind
  rw [e]
  by_cases h0 : ax * bY - ay * bx = 0
  · by_cases hl : ax * ax + ay * ay = bx * bx + bY * bY
    · exfalso
      have e1 : (bx * bx - ax * ax) * (ax * ax + ay * ay) = 0 := by grind
      have p1 : 0 < ax * ax := Int.mul_pos ha ha
      have p2 : 0 ≤ ay * ay := by
        rcases Int.le_total 0 ay with h | h
        · exact Int.mul_nonneg h h
        · exact Int.mul_nonneg_of_nonpos_of_nonpos h h
      rcases Int.mul_eq_zero.1 e1 with h | h
      · have e2 : (bx - ax) * (bx + ax) = 0 := by grind
        rcases Int.mul_eq_zero.1 e2 with h' | h'
        · have e3 : ax = bx := by omega
          subst e3
          have e4 : ax * (bY - ay) = 0 := by grind
          rcases Int.mul_eq_zero.1 e4 with h'' | h''
          · omega
          · exact hne ⟨rfl, by omega⟩
        · omega
      · omega
    · omega
  · omega

theorem S_neg (ax ay bx bY : Int) : S (-ax) (-ay) (-bx) (-bY) ↔ S ax ay bx bY := by
  unfold S
  have e1 : (-ax) * (-bY) - (-ay) * (-bx) = ax * bY - ay * bx := by grind
  have e2 : (-ax) * (-ax) + (-ay) * (-ay) = ax * ax + ay * ay := by grind
  have e3 : (-bx) * (-bx) + (-bY) * (-bY) = bx * bx + bY * bY := by grind
  rw [e1, e2, e3]

theorem rl_class {ax ay bx bY : Int} (ha : ¬ (ax = 0 ∧ ay = 0)) (hb : ¬ (bx = 0 ∧ bY = 0)) (h : cls ax ay ≠ cls bx bY) : rl ax ay bx bY = decide (cls ax ay < cls bx bY) := by
  have hm : ∀ x y : Int, 0 < x → 0 < y → 0 < x * y := fun x y => Int.mul_pos
  have hn : ∀ x y : Int, x < 0 → 0 < y → x * y < 0 := fun x y => Int.mul_neg_of_neg_of_pos
  have hk : ∀ x y : Int, 0 < x → y < 0 → x * y < 0 := fun x y => Int.mul_neg_of_pos_of_neg
  have m1 := hm ay bx; have m2 := hn ay bx; have m3 := hm ax bY; have m4 := hk ax bY
  unfold rl cls at *
  by_cases a0 : ax = 0
  · subst a0
    rw [Int.zero_mul]
    (repeat' split) <;> (repeat' split at h) <;> first | rfl | omega | (simp; omega) | (exfalso; omega)
  · by_cases b0 : bx = 0
    · subst b0
      rw [Int.mul_zero]
      (repeat' split) <;> (repeat' split at h) <;> first | rfl | omega | (simp; omega) | (exfalso; omega)
    · (repeat' split) <;> (repeat' split at h) <;> first | rfl | omega | (simp; omega) | (exfalso; omega)

theorem rl_same {ax ay bx bY : Int} (h : cls ax ay = cls bx bY) : (cls ax ay = 2 ∧ ax < 0 ∧ bx < 0 ∧ (rl ax ay bx bY = true ↔ S ax ay bx bY)) ∨ (cls ax ay = 0 ∧ 0 < ax ∧ 0 < bx ∧ (rl ax ay bx bY = true ↔ S ax ay bx bY)) ∨
    (cls ax ay = -1 ∧ ax = 0 ∧ bx = 0 ∧ ay < 0 ∧ bY < 0 ∧ rl ax ay bx bY = decide (bY < ay)) ∨ (cls ax ay = 1 ∧ ax = 0 ∧ bx = 0 ∧ 0 ≤ ay ∧ 0 ≤ bY ∧ rl ax ay bx bY = decide (ay < bY)) := by
  have key : ¬ (0 ≤ ax ∧ bx < 0) → ¬ (ax < 0 ∧ 0 ≤ bx) → ¬ (ax = 0 ∧ bx = 0) → (rl ax ay bx bY = true ↔ S ax ay bx bY) := by
    intro h1 h2 h3
    unfold rl S
    rw [if_neg h1, if_neg h2, if_neg h3]
    split
    · simp; omega
    · simp; omega
  by_cases a1 : ax < 0
  · by_cases b1 : bx < 0
    · exact Or.inl ⟨by simp [cls, a1], a1, b1, key (by omega) (by omega) (by omega)⟩
    · exfalso; unfold cls at h; rw [if_pos a1, if_neg b1] at h; (repeat' split at h) <;> omega
  · by_cases b1 : bx < 0
    · exfalso; unfold cls at h; rw [if_neg a1, if_pos b1] at h; (repeat' split at h) <;> omega
    · by_cases a0 : ax = 0
      · by_cases b0 : bx = 0
        · subst a0 b0
          unfold cls at h ⊢
          unfold rl
          by_cases a2 : ay < 0
          · by_cases b2 : bY < 0
            · exact Or.inr (Or.inr (Or.inl ⟨by simp [a2], rfl, rfl, a2, b2, by simp; omega⟩))
            · simp [a2, b2] at h
          · by_cases b2 : bY < 0
            · simp [a2, b2] at h
            · exact Or.inr (Or.inr (Or.inr ⟨by simp [a2], rfl, rfl, by omega, by omega, by simp; omega⟩))
        · exfalso; unfold cls at h; simp [a0, b0, b1] at h; split at h <;> omega
      · by_cases b0 : bx = 0
        · exfalso; unfold cls at h; simp [a0, b0, a1] at h; split at h <;> omega
        · exact Or.inr (Or.inl ⟨by simp [cls, a1, a0], by omega, by omega, key (by omega) (by omega) (by omega)⟩)

theorem rl_irrefl (x y : Int) : rl x y x y = false := by
  unfold rl
  have e : x * y - y * x = 0 := by grind
  rw [e]
  (repeat' split) <;> simp <;> omega

/-- of two different directions just one comes ahead of the other -/
theorem rl_one {ax ay bx bY : Int} (ha : ¬ (ax = 0 ∧ ay = 0)) (hb : ¬ (bx = 0 ∧ bY = 0)) (hne : ¬ (ax = bx ∧ ay = bY)) : rl ax ay bx bY = !rl bx bY ax ay := by
  by_cases h : cls ax ay = cls bx bY
  · have hS : 0 < ax → 0 < bx → (rl ax ay bx bY = true ↔ S ax ay bx bY) → (rl bx bY ax ay = true ↔ S bx bY ax ay) → rl ax ay bx bY = !rl bx bY ax ay := by
      intro p1 p2 e1 e2
      rcases S_total p1 p2 hne with ⟨s1, s2⟩ | ⟨s1, s2⟩
      · have := e1.2 s1; cases hc : rl bx bY ax ay
        · rw [this]; rfl
        · exact absurd (e2.1 hc) s2
      · have := e2.2 s2; cases hc : rl ax ay bx bY
        · rw [this]; rfl
        · exact absurd (e1.1 hc) s1
    have hS' : ax < 0 → bx < 0 → (rl ax ay bx bY = true ↔ S ax ay bx bY) → (rl bx bY ax ay = true ↔ S bx bY ax ay) → rl ax ay bx bY = !rl bx bY ax ay := by
      intro p1 p2 e1 e2
      rcases S_total (ax := -ax) (ay := -ay) (bx := -bx) (bY := -bY) (by omega) (by omega) (by omega) with ⟨s1, s2⟩ | ⟨s1, s2⟩ <;> rw [S_neg] at s1 s2
      · have := e1.2 s1; cases hc : rl bx bY ax ay
        · rw [this]; rfl
        · exact absurd (e2.1 hc) s2
      · have := e2.2 s2; cases hc : rl ax ay bx bY
        · rw [this]; rfl
        · exact absurd (e1.1 hc) s1
    rcases rl_same h with ⟨c, p1, p2, e⟩ | ⟨c, p1, p2, e⟩ | ⟨c, p1, p2, p3, p4, e⟩ | ⟨c, p1, p2, p3, p4, e⟩ <;>
      rcases rl_same h.symm with ⟨c', q1, q2, e'⟩ | ⟨c', q1, q2, e'⟩ | ⟨c', q1, q2, q3, q4, e'⟩ | ⟨c', q1, q2, q3, q4, e'⟩ <;> try (exfalso; omega)
    · exact hS' p1 p2 e e'
    · exact hS p1 p2 e e'
    · rw [e, e', ← decide_not]; congr 1; apply propext; omega
    · rw [e, e', ← decide_not]; congr 1; apply propext; omega
  · rw [rl_class ha hb h, rl_class hb ha (Ne.symm h), ← decide_not]; congr 1; apply propext; omega

/-- what comes ahead of what comes ahead of a third one comes ahead of that -/
theorem rl_trans {ax ay bx bY cx cy : Int} (ha : ¬ (ax = 0 ∧ ay = 0)) (hb : ¬ (bx = 0 ∧ bY = 0)) (hc : ¬ (cx = 0 ∧ cy = 0)) (h1 : rl ax ay bx bY = true) (h2 : rl bx bY cx cy = true) : rl ax ay cx cy = true := by
  by_cases k1 : cls ax ay = cls bx bY
  · by_cases k2 : cls bx bY = cls cx cy
    · rcases rl_same k1 with ⟨c, p1, p2, e⟩ | ⟨c, p1, p2, e⟩ | ⟨c, p1, p2, p3, p4, e⟩ | ⟨c, p1, p2, p3, p4, e⟩ <;>
        rcases rl_same k2 with ⟨c', q1, q2, e'⟩ | ⟨c', q1, q2, e'⟩ | ⟨c', q1, q2, q3, q4, e'⟩ | ⟨c', q1, q2, q3, q4, e'⟩ <;>
          rcases rl_same (k1.trans k2) with ⟨c'', r1, r2, e''⟩ | ⟨c'', r1, r2, e''⟩ | ⟨c'', r1, r2, r3, r4, e''⟩ | ⟨c'', r1, r2, r3, r4, e''⟩ <;> try (exfalso; omega)
      · exact e''.2 ((S_neg ..).1 (S_trans (by omega) (by omega) (by omega) ((S_neg ..).2 (e.1 h1)) ((S_neg ..).2 (e'.1 h2))))
      · exact e''.2 (S_trans p1 p2 q2 (e.1 h1) (e'.1 h2))
      · rw [e] at h1; rw [e'] at h2; rw [e'']; simp at *; omega
      · rw [e] at h1; rw [e'] at h2; rw [e'']; simp at *; omega
    · rw [rl_class hb hc k2] at h2
      rw [rl_class ha hc (by rw [k1]; exact k2), k1]; exact h2
  · rw [rl_class ha hb k1] at h1
    have h1' := of_decide_eq_true h1
    by_cases k2 : cls bx bY = cls cx cy
    · rw [rl_class ha hc (by rw [← k2]; exact k1), ← k2]; exact h1
    · rw [rl_class hb hc k2] at h2
      have h2' := of_decide_eq_true h2
      rw [rl_class ha hc (by omega)]
      exact decide_eq_true (by omega)
end Go.Proofs.Ytmdllkjlbalbpaa.Radial
