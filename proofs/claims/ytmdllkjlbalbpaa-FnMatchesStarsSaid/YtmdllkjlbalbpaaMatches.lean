/-
  The package's matching of a matrix of nine letters against a pattern.
-/
import Derived.Test.YtmdllkjlbalbpaaWalk
import Derived.Lib.OthersKept
import Derived.Lib.BufferKept
import Derived.Lib.Strings
import Derived.Lib.ItoaWalk
import Derived.Outline
namespace Go.Proofs.Ytmdllkjlbalbpaa.Matches
open Go.ChangeShapes Go.WideShapes Go.ChangeAt Go.RowKit Go.Sort
attribute [local irreducible] wpQuiet

/-- a letter of a matrix; a letter of a pattern; whether they match -/
def okM (m : Nat) : Prop := m = 70 ∨ m = 48 ∨ m = 49 ∨ m = 50
def okP (p : Nat) : Prop := p = 70 ∨ p = 48 ∨ p = 49 ∨ p = 50 ∨ p = 84 ∨ p = 42
def em (m p : Nat) : Bool := decide (p = 42 ∨ (p = 84 ∧ m ≠ 70) ∨ p = m)

/-- the letter at 'i' -/
def at' (s : ByteArray) (i : Nat) : Nat := (s.data.toList.getD i 0).toNat
theorem at_get {s : ByteArray} {i : Nat} (h : i < s.size) : (s[i]'h).toNat = at' s i := by
  unfold at'; rw [Lib.getD_at s i h]
def emTo (mat pat : ByteArray) (k : Nat) : Bool := (List.range k).all fun i => em (at' mat i) (at' pat i)
theorem emTo_succ (mat pat : ByteArray) (k : Nat) : emTo mat pat (k + 1) = (emTo mat pat k && em (at' mat k) (at' pat k)) := by
  unfold emTo; rw [List.range_succ, List.all_append]; simp

theorem emTo_false {mat pat : ByteArray} {k n : Nat} (h : k < n) (hf : em (at' mat k) (at' pat k) = false) : emTo mat pat n = false := by
  unfold emTo; rw [List.all_eq_false]; exact ⟨k, List.mem_range.2 h, by rw [hf]; decide⟩

theorem ret_b2 {a b : Bool} (h : a = b) : Ending.returned (.tuple #[.bool a, .nilIface]) = .returned (.tuple #[.bool b, .nilIface]) := by rw [h]

set_option maxHeartbeats 8000000 in
theorem matches_any (mat pat : ByteArray) (h1 : mat.size = 9) (h2 : pat.size = 9) (hm : ∀ i, i < 9 → okM (at' mat i)) (hp : ∀ i, i < 9 → okP (at' pat i)) (w : World) :
    Calls Try.prog 41 #[.string mat, .string pat] w fun e w' => e = .returned (.tuple #[.bool (emTo mat pat 9), .nilIface]) ∧ Below w.heap.size w w' := by
  have H1 := Lib.hid h1
  have H2 := Lib.hid h2
  have H3 := Lib.hid hm
  have H4 := Lib.hid hp
  have z1 : ((mat.size : Int) != 9) = false := by simp [h1]
  have z2 : ((pat.size : Int) != 9) = false := by simp [h2]
  clear h1 h2 hm hp
  go_enter Try.func41, Try.ntmps41
  go_wp2
  go_loopw [8] (fun _ wr => ∃ pos : Nat, pos ≤ 9 ∧ wr.heap[w.heap.size]? = some (.stringIter mat pos) ∧ emTo mat pat pos = true ∧ Below w.heap.size w wr) (fun _ wr => 9 - wr.iterPos w.heap.size)
  case atStart => exact ⟨0, Nat.zero_le _, by have := World.iter_heap w mat 0; simpa using this, by simp [emTo], (Below.refl _ _).alloc (Nat.le_refl _) _⟩
  case round =>
    obtain ⟨pos, hps, hk, hem, hnx⟩ := hrel
    have hmu : wr.iterPos w.heap.size = pos := by simp [World.iterPos, hk]
    by_cases hp9 : pos < 9
    · have hpm : pos < mat.size := by rw [H1.out]; exact hp9
      have hpp : pos < pat.size := by rw [H2.out]; exact hp9
      have hpp1 : (pos : Int) < (pat.size : Int) := by omega
      have hM := H3.out pos hp9
      have hP := H4.out pos hp9
      rw [← at_get hpm] at hM
      rw [← at_get hpp] at hP
      have h128 : (mat[pos]'hpm).toNat < 128 := by unfold okM at hM; omega
      have hnext : ∀ ty, (Instr.next (.pointer (some ⟨w.heap.size, 0, none⟩)) true ty).run Try.prog wr = _ := fun ty => Lib.run_next_ascii_at wr w.heap.size mat pos ty hk hpm h128
      have hk1 := Lib.iterAt_heap wr w.heap.size mat pos (pos + 1) hk
      have hnx1 : Below w.heap.size w (wr.iterAt w.heap.size mat (pos + 1)) := Lib.below_iterAt hnx (by omega) mat (pos + 1)
      have hmu1 : (wr.iterAt w.heap.size mat (pos + 1)).iterPos w.heap.size = pos + 1 := by simp [World.iterPos, hk1]
      have hs := Lib.hid (emTo_succ mat pat pos)
      have hs3 : Hid (em (mat[pos]'hpm).toNat (pat[pos]'hpp).toNat = false → emTo mat pat 9 = false) := fun hf => emTo_false hp9 (by rw [← at_get hpm, ← at_get hpp]; exact hf)
      have hs2 : Hid (emTo mat pat (pos + 1) = em (mat[pos]'hpm).toNat (pat[pos]'hpp).toNat) := by rw [hs.out, hem, ← at_get hpm, ← at_get hpp]; rfl
      generalize wr.iterAt w.heap.size mat (pos + 1) = W1 at hnext hk1 hnx1 hmu1
      have HK1 := Lib.hid hk1
      have HMU := Lib.hid hmu
      have HMU1 := Lib.hid hmu1
      clear hk1 hk hs hem hmu hmu1
      rcases hM with hM | hM | hM | hM <;> rcases hP with hP | hP | hP | hP | hP | hP
      all_goals
        go_wp2
        first
          | (go_ret2
             exact ⟨ret_b2 (hs3.out (by rw [hM, hP]; decide)).symm, hnx1⟩)
          | (go_roundw
             case rel => exact ⟨pos + 1, by omega, HK1.out, by rw [hs2.out, hM, hP]; decide, hnx1⟩
             case measure => rw [HMU.out, HMU1.out]; omega)
    · have hnext : ∀ ty, (Instr.next (.pointer (some ⟨w.heap.size, 0, none⟩)) true ty).run Try.prog wr = _ := fun ty => Lib.run_next_end_at wr w.heap.size mat pos ty hk (by rw [H1.out]; exact hp9)
      obtain rfl : pos = 9 := by omega
      have hs := Lib.hid hem
      clear hem hk hmu hp9
      go_wp2
      go_ret2
      exact ⟨ret_b2 hs.out.symm, hnx⟩
end Go.Proofs.Ytmdllkjlbalbpaa.Matches
