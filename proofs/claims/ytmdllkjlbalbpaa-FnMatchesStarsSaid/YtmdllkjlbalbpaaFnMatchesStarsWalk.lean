/-
  The walk of 'FnMatchesStars': a pattern stays one that matches if any of its entries becomes a star.
-/
import Derived.Test.YtmdllkjlbalbpaaMatches
import Derived.WideLaws
import Derived.OpenShut
import Derived.Lib.SmallJoins
namespace Go.Proofs.Ytmdllkjlbalbpaa.FnMatchesStars
open Go.ChangeShapes Go.WideShapes Go.ChangeAt Go.RowKit Go.Sort
open Matches
attribute [local irreducible] wpQuiet

theorem impl_any (mat pat : ByteArray) (h1 : mat.size = 9) (h2 : pat.size = 9) (hm : ∀ i, i < 9 → okM (at' mat i)) (hp : ∀ i, i < 9 → okP (at' pat i)) (w : World) :
    Calls Try.prog 20 #[.string mat, .string pat] w fun e w' => e = .returned (.tuple #[.bool (emTo mat pat 9), .bool true]) ∧ Below w.heap.size w w' := by
  have c := Lib.hid fun w => matches_any mat pat h1 h2 hm hp w
  clear h1 h2 hm hp
  go_enter Try.func20, Try.ntmps20
  go_wp2_with fail
  refine (c.out _).mono ?_
  rintro e w1 ⟨rfl, hb⟩
  go_wp2_with fail
  refine region_reads (fun _ => True) (fun _ _ => trivial) (by kernel_rfl) (by kernel_rfl) ?_
  intro W1 hz hS
  clear hS hz
  repeat (refine @quiet_cons _ _ _ _ _ _ _ _ rfl (fun K hK => ?_); go_simp; first | (refine hK _ ?_; clear hK K) | (apply Exists.intro; refine ⟨fun _ => ?_, hK _ ?_⟩; (fail); clear hK K))
  refine quiet_nil rfl ?_
  intro w2 hb2
  have hbb : Below w.heap.size w w2 := hb.trans (hb2.mono hb.size)
  clear hb hb2
  go_wp2_with fail
  go_ret2
  exact ⟨rfl, hbb⟩

/-- the statement's test of two letters -/
def ent1 (m p : Nat) : Bool := if m ≠ 70 ∧ (m < 48 ∨ 50 < m) then false else if p = 70 ∨ p = 48 ∨ p = 49 ∨ p = 50 then decide (m = p) else if p = 84 then decide (m ≠ 70) else true
def ent2 (m p : Nat) : Bool := if m ≠ 70 ∧ (m < 48 ∨ 50 < m) then false else if p = 70 ∨ p = 48 ∨ p = 49 ∨ p = 50 then true else if p = 84 then true else decide (p = 42)

theorem ret_bb {a b c d : Bool} (h : a = b) (h' : c = d) : Ending.returned (.tuple #[.bool a, .bool c]) = .returned (.tuple #[.bool b, .bool d]) := by rw [h, h']

theorem beq_f {a : Nat} {b : Int} (h : (a : Int) ≠ b) : ((a : Int) == b) = false := by simpa using h
theorem bne_t {a : Nat} {b : Int} (h : (a : Int) ≠ b) : ((a : Int) != b) = true := by simpa using h

set_option maxHeartbeats 4000000 in
theorem entry_any (m p : Nat) (w : World) (h1 : m < 256) (h2 : p < 256) :
    Calls Try.prog 19 #[.int .u8 m, .int .u8 p] w fun e w' => e = .returned (.tuple #[.bool (ent1 m p), .bool (ent2 m p)]) ∧ Below w.heap.size w w' := by
  have hm : m = 70 ∨ (m ≠ 70 ∧ (m < 48 ∨ 50 < m)) ∨ m = 48 ∨ m = 49 ∨ m = 50 := by omega
  have hp : p = 70 ∨ p = 48 ∨ p = 49 ∨ p = 50 ∨ p = 84 ∨ p = 42 ∨ (p ≠ 70 ∧ p ≠ 48 ∧ p ≠ 49 ∧ p ≠ 50 ∧ p ≠ 84 ∧ p ≠ 42) := by omega
  rcases hm with rfl | ⟨m1, m2⟩ | rfl | rfl | rfl
  case inr.inl =>
    have e1 : ent1 m p = false := by unfold ent1; rw [if_pos ⟨m1, m2⟩]
    have e2 : ent2 m p = false := by unfold ent2; rw [if_pos ⟨m1, m2⟩]
    rw [e1, e2]
    have f1 := bne_t (a := m) (b := 70) (by omega)
    clear e1 e2 hp
    rcases m2 with m2 | m2
    all_goals
      have f2 : ((m : Int) < 48) ∨ (48 ≤ (m : Int) ∧ 50 < (m : Int)) := by omega
      go_enter Try.func19, Try.ntmps19
      go_wp2
      all_goals first
        | (go_ret2; exact ⟨rfl, Below.refl _ _⟩)
        | (exfalso; omega)
  all_goals
    rcases hp with rfl | rfl | rfl | rfl | rfl | rfl | ⟨n1, n2, n3, n4, n5, n6⟩
    case inr.inr.inr.inr.inr.inr =>
      have f1 := beq_f (a := p) (b := 70) (by omega)
      have f2 := beq_f (a := p) (b := 48) (by omega)
      have f3 := beq_f (a := p) (b := 49) (by omega)
      have f4 := beq_f (a := p) (b := 50) (by omega)
      have f5 := beq_f (a := p) (b := 84) (by omega)
      have f6 := beq_f (a := p) (b := 42) (by omega)
      rw [show ∀ m, ent2 m p = false from fun m => by unfold ent2; split; rfl; simp [n1, n2, n3, n4, n6]]
      have e1 := Lib.hid (show ∀ m, ¬ (m ≠ 70 ∧ (m < 48 ∨ 50 < m)) → ent1 m p = true from fun m hm => by unfold ent1; rw [if_neg hm]; simp [n1, n2, n3, n4, n5])
      clear n1 n2 n3 n4 n5 n6
      go_enter Try.func19, Try.ntmps19
      go_wp2
      go_ret2
      exact ⟨ret_bb (e1.out _ (by omega)).symm rfl, Below.refl _ _⟩
    all_goals
      go_enter Try.func19, Try.ntmps19
      go_wp2
      go_ret2
      exact ⟨ret_bb (by decide) (by decide), Below.refl _ _⟩

theorem ent2_ok {m p : Nat} (h : ent2 m p = true) : okM m ∧ okP p := by
  unfold ent2 at h
  split at h
  · cases h
  · unfold okM okP
    split at h
    · omega
    · split at h
      · omega
      · have := of_decide_eq_true h; omega
theorem ent2_mk {m p : Nat} (h1 : okM m) (h2 : okP p) : ent2 m p = true := by
  unfold okM at h1; unfold okP at h2; unfold ent2
  rw [if_neg (by omega)]
  split
  · rfl
  · split
    · rfl
    · exact decide_eq_true (by omega)

theorem lt256 (b : UInt8) : b.toNat < 256 := by have := b.toNat_lt; omega
theorem at_lt (s : ByteArray) (i : Nat) : at' s i < 256 := lt256 _

/-- the two texts are of nine letters each; the first 'k' letters of both are letters -/
def okTo (mat pat : ByteArray) (k : Nat) : Bool := (List.range k).all fun i => ent2 (at' mat i) (at' pat i)
theorem okTo_succ (mat pat : ByteArray) (k : Nat) : okTo mat pat (k + 1) = (okTo mat pat k && ent2 (at' mat k) (at' pat k)) := by
  unfold okTo; rw [List.range_succ, List.all_append]; simp

/-- the pattern with a star at 'i' -/
def star (pat : ByteArray) (i : Nat) : ByteArray := pat.extract 0 i ++ ⟨#[42]⟩ ++ pat.extract (i + 1) pat.size
theorem star_list (pat : ByteArray) (i : Nat) (h : i < pat.size) : (star pat i).data.toList = pat.data.toList.set i 42 := by
  have e : pat.data.toList.length = pat.size := (Lib.size_eq pat).symm
  unfold star
  rw [Joins.data_append, Joins.data_append, Lib.extract_data, Lib.extract_data]
  rw [List.set_eq_take_append_cons_drop, if_pos (by omega)]
  simp only [List.drop_zero, List.append_assoc, List.singleton_append]
  congr 2
  rw [List.take_of_length_le (by rw [List.length_drop]; omega)]
theorem star_size (pat : ByteArray) (i : Nat) (h : i < pat.size) : (star pat i).size = pat.size := by
  rw [Lib.size_eq, star_list pat i h, List.length_set, Lib.size_eq]
theorem star_at (pat : ByteArray) (i j : Nat) (h : i < pat.size) : at' (star pat i) j = if i = j then 42 else at' pat j := by
  unfold at'
  rw [star_list pat i h]
  by_cases hij : i = j
  · subst hij
    have e : pat.data.toList.length = pat.size := (Lib.size_eq pat).symm
    rw [if_pos rfl, List.getD_eq_getElem?_getD, List.getElem?_set_self (by omega)]; rfl
  · rw [if_neg hij, List.getD_eq_getElem?_getD, List.getElem?_set_ne hij, ← List.getD_eq_getElem?_getD]

set_option maxHeartbeats 4000000 in
theorem core (mat pat : ByteArray) (i : Nat) (h1 : mat.size = 9) (h2 : pat.size = 9) (i1 : i ≤ 8) (w : World) :
    Calls Try.prog 6 #[.string mat, .string pat, .int .i64 (i : Int)] w fun e w' => e = .returned (.bool true) ∧ Below w.heap.size w w' := by
  have H1 := Lib.hid h1
  have H2 := Lib.hid h2
  have z1 : ((mat.size : Int) != 9) = false := by simp [h1]
  have z2 : ((pat.size : Int) != 9) = false := by simp [h2]
  have z3 : (mat.size : Int) ≤ 9 := by omega
  have z4 : (pat.size : Int) ≤ 9 := by omega
  clear h1 h2
  go_enter Try.func6, Try.ntmps6
  go_wp2_with fail
  go_loopw [38] (fun j wr => ∃ k : Nat, k ≤ 9 ∧ j = .int .i64 k ∧ okTo mat pat k = true ∧ Below w.heap.size w wr) (fun j _ => 9 - (intOf j).toNat)
  case atStart => exact ⟨0, Nat.zero_le _, rfl, rfl, Below.refl _ _⟩
  case round =>
    obtain ⟨k, hk, rfl, hok, hnx⟩ := hrel
    by_cases hk9 : k < 9
    · have hpm : k < mat.size := by rw [H1.out]; exact hk9
      have hpp : k < pat.size := by rw [H2.out]; exact hk9
      have b1 : (k : Int) < (mat.size : Int) := by omega
      have b2 : (k : Int) < (pat.size : Int) := by omega
      have b3 : (0 : Int) ≤ (k : Int) := by omega
      have c := Lib.hid fun w => entry_any (mat[k]'hpm).toNat (pat[k]'hpp).toNat w (lt256 _) (lt256 _)
      have hs : Hid (okTo mat pat (k + 1) = ent2 (mat[k]'hpm).toNat (pat[k]'hpp).toNat) := by
        have := okTo_succ mat pat k
        rw [this, hok, ← at_get hpm, ← at_get hpp]; rfl
      clear hok
      go_wp2_with fail
      refine region_reads (fun _ => True) (fun _ _ => trivial) (by kernel_rfl) (by kernel_rfl) ?_
      intro W1 hz hS
      clear hS hz
      repeat (refine @quiet_cons _ _ _ _ _ _ _ _ rfl (fun K hK => ?_); go_simp; first | (refine hK _ ?_; clear hK K) | (apply Exists.intro; refine ⟨fun _ => ?_, hK _ ?_⟩; (with_reducible exact Calls.regrown_of (c.out _)); clear hK K))
      refine quiet_nil rfl ?_
      intro w2 hb2
      have hbb : Below w.heap.size w w2 := hnx.trans (hb2.mono hnx.size)
      clear hb2 hnx
      generalize ent1 (mat[k]'hpm).toNat (pat[k]'hpp).toNat = q1 at c
      cases hq : ent2 (mat[k]'hpm).toNat (pat[k]'hpp).toNat
      · go_wp2_with fail
        go_ret
        exact ⟨rfl, hbb⟩
      · go_wp2_with fail
        go_roundw
        case rel => exact ⟨k + 1, by omega, by go_num, by rw [hs.out, hq], hbb⟩
        case measure => simp [intOf]; omega
    · obtain rfl : k = 9 := by omega
      have hM : ∀ j, j < 9 → okM (at' mat j) := fun j hj => (ent2_ok (List.all_eq_true.1 hok j (List.mem_range.2 hj))).1
      have hP : ∀ j, j < 9 → okP (at' pat j) := fun j hj => (ent2_ok (List.all_eq_true.1 hok j (List.mem_range.2 hj))).2
      have c1 := Lib.hid fun w => impl_any mat pat H1.out H2.out hM hP w
      have g1 : (i : Int) ≤ (pat.size : Int) := by rw [H2.out]; omega
      have g2 : (i : Int) + 1 ≤ (pat.size : Int) := by rw [H2.out]; omega
      have g3 : (0 : Int) ≤ (i : Int) := by omega
      have HM := Lib.hid hM
      have HP := Lib.hid hP
      have n1 : ¬ 9223372036854775807 < min i pat.size + 1 := by omega
      have n2 : IntKind.i64.wrap ((i : Int) + 1) = (i : Int) + 1 := IntWalk.i64_in _ (by omega)
      have n3 : ((i : Int) + 1).toNat = i + 1 := by omega
      have n4 : (0 : Int) ≤ (i : Int) + 1 := by omega
      have hi9 : i < pat.size := by rw [H2.out]; omega
      have hP2 : ∀ j, j < 9 → okP (at' (star pat i) j) := fun j hj => by
        rw [star_at pat i j hi9]; split
        · unfold okP; omega
        · exact hP j hj
      have himp : emTo mat pat 9 = true → emTo mat (star pat i) 9 = true := fun he => by
        unfold emTo at he ⊢
        rw [List.all_eq_true] at he ⊢
        intro j hj
        rw [star_at pat i j hi9]; split
        · unfold em; exact decide_eq_true (Or.inl rfl)
        · exact he j hj
      have c2 := Lib.hid fun w => impl_any mat (star pat i) H1.out (by rw [star_size pat i hi9, H2.out]) hM hP2 w
      have n5 : ¬ 9223372036854775807 < min i pat.size + 1 + (pat.size - (i + 1)) := by omega
      have hbo : emTo mat pat 9 = false ∨ (emTo mat pat 9 = true ∧ emTo mat (star pat i) 9 = true) := by
        cases he : emTo mat pat 9
        · exact Or.inl rfl
        · exact Or.inr ⟨rfl, himp he⟩
      clear hok hM hP hk hk9 hP2 himp hi9
      generalize emTo mat pat 9 = r1 at c1 hbo
      generalize emTo mat (star pat i) 9 = r2 at c2 hbo
      go_wp2_with fail
      refine (c1.out _).mono ?_
      rintro e w1 ⟨rfl, hb1⟩
      have hbb : Below w.heap.size w w1 := hnx.trans (hb1.mono hnx.size)
      clear hb1 hnx
      go_wp2_with fail
      refine region_reads (fun _ => True) (fun _ _ => trivial) (by kernel_rfl) (by kernel_rfl) ?_
      intro W1 hz hS
      clear hS hz
      repeat (refine @quiet_cons _ _ _ _ _ _ _ _ rfl (fun K hK => ?_); go_simp; first | (refine hK _ ?_; clear hK K) | (apply Exists.intro; refine ⟨fun _ => ?_, hK _ ?_⟩; (exact Calls.regrown_of (c2.out _)); clear hK K))
      refine quiet_nil rfl ?_
      intro w2 hb2
      have hbb2 : Below w.heap.size w w2 := hbb.trans (hb2.mono hbb.size)
      clear hb2 hbb
      rcases hbo with rfl | ⟨rfl, rfl⟩
      all_goals
        go_wp2_with fail
        all_goals
          go_ret
          exact ⟨rfl, hbb2⟩

theorem triv (mat pat : ByteArray) (i : Int) (h : ¬ (mat.size = 9 ∧ pat.size = 9 ∧ 0 ≤ i ∧ i ≤ 8)) (w : World) :
    Calls Try.prog 6 #[.string mat, .string pat, .int .i64 i] w fun e w' => e = .returned (.bool true) ∧ Below w.heap.size w w' := by
  by_cases b1 : mat.size ≤ 2147483647
  · by_cases b2 : pat.size ≤ 2147483647
    · have c1 : (mat.size : Int) ≤ 2147483647 := by omega
      have c2 : (pat.size : Int) ≤ 2147483647 := by omega
      by_cases h1 : mat.size = 9
      · have z1 : ((mat.size : Int) != 9) = false := by simp [h1]
        by_cases h2 : pat.size = 9
        · have z2 : ((pat.size : Int) != 9) = false := by simp [h2]
          have h3 : i < 0 ∨ (0 ≤ i ∧ 8 < i) := by omega
          clear h h1 h2
          rcases h3 with h3 | ⟨h3, h4⟩
          all_goals
            go_enter Try.func6, Try.ntmps6
            go_wp2_with fail
            go_ret
            exact ⟨rfl, Below.refl _ _⟩
        · have z2 : ((pat.size : Int) != 9) = true := bne_t (by omega)
          clear h h1 h2
          go_enter Try.func6, Try.ntmps6
          go_wp2_with fail
          go_ret
          exact ⟨rfl, Below.refl _ _⟩
      · have z1 : ((mat.size : Int) != 9) = true := bne_t (by omega)
        clear h h1
        go_enter Try.func6, Try.ntmps6
        go_wp2_with fail
        go_ret
        exact ⟨rfl, Below.refl _ _⟩
    · have c1 : (mat.size : Int) ≤ 2147483647 := by omega
      have c2 : 2147483647 < (pat.size : Int) := by omega
      clear h
      go_enter Try.func6, Try.ntmps6
      go_wp2_with fail
      go_ret
      exact ⟨rfl, Below.refl _ _⟩
  · have c1 : 2147483647 < (mat.size : Int) := by omega
    clear h
    go_enter Try.func6, Try.ntmps6
    go_wp2_with fail
    go_ret
    exact ⟨rfl, Below.refl _ _⟩

section
variable {H : Type} {enc : TypeId × Value → H} {W : World} {base : Nat}
set_option maxRecDepth 100000 in
theorem walk {v0 v1 v2 : Value} {d0 d1 d2 : DataW H} {p0 p1 p2 : List MemPlace}
    (o0 : Value.okWide Try.prog W .any base 9 v0) (h0 : DataW.Trod enc Try.prog W 0 (fun _ => true) true 9 v0 d0 p0)
    (o1 : Value.okWide Try.prog W .any base 9 v1) (h1 : DataW.Trod enc Try.prog W 0 (fun _ => true) true 9 v1 d1 p1)
    (o2 : Value.okWide Try.prog W .any base 3 v2) (h2 : DataW.Trod enc Try.prog W 0 (fun _ => true) true 3 v2 d2 p2) :
    Calls Try.prog 6 #[v0, v1, v2] W fun e w' => e = .returned (.bool true) ∧ Below W.heap.size W w' := by
  obtain ⟨mat, rfl, rfl, rfl, hs⟩ := ChangeMaps.open_string Try.underlying9 o0 h0
  obtain ⟨pat, rfl, rfl, rfl, ht⟩ := ChangeMaps.open_string Try.underlying9 o1 h1
  obtain ⟨i, rfl, rfl, rfl, wi⟩ := open_int Try.underlying3 o2 h2
  by_cases h : mat.size = 9 ∧ pat.size = 9 ∧ 0 ≤ i ∧ i ≤ 8
  · obtain ⟨a1, a2, a3, a4⟩ := h
    obtain ⟨n, rfl⟩ : ∃ n : Nat, i = n := ⟨i.toNat, by omega⟩
    exact core mat pat n a1 a2 (by omega) W
  · exact triv mat pat i h W
end
end Go.Proofs.Ytmdllkjlbalbpaa.FnMatchesStars
