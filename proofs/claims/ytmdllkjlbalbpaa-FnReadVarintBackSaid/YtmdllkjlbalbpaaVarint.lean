/-
  The package's reading of signed numbers by seven bits a byte: what is written by the reference is read back, whatever follows.
-/
import Derived.Test.YtmdllkjlbalbpaaUvarint
import Derived.Test.YtmdllkjlbalbpaaBits
import Derived.Test.YtmdllkjlbalbpaaShelf
namespace Go.Proofs.Ytmdllkjlbalbpaa.Uva
open Go.ChangeShapes Go.WideShapes Go.ChangeAt Go.RowKit Go.Sort
open Lib (uvarint byteCells uvarintFrom uvarintDec varintDec)
attribute [local irreducible] wpQuiet

/-! ### plain: what is written is read back -/
theorem from_back : ∀ (k x i acc : Nat) (t : List UInt8), x < 2 ^ k → k + 7 * i = 64 → i ≤ 9 → uvarintFrom i acc (uvarint x ++ t) = (acc + x * 2 ^ (7 * i), ((i + (uvarint x).length : Nat) : Int)) := by
  intro k
  induction k using Nat.strongRecOn with
  | ind k ih =>
    intro x i acc t hx hk hi
    by_cases hs : x < 128
    · rw [Lib.uvarint_small hs]
      have hb : (x.toUInt8).toNat = x := Lib.toUInt8_toNat (by omega)
      show uvarintFrom i acc (x.toUInt8 :: t) = _
      rw [uvarintFrom, if_neg (by omega), hb, if_pos hs, if_neg]
      · simp
      · rintro ⟨h9, h1⟩
        subst h9
        have : k = 1 := by omega
        subst this
        omega
    · rw [Lib.uvarint_big (by omega)]
      have hb : ((x % 128 + 128).toUInt8).toNat = x % 128 + 128 := Lib.toUInt8_toNat (by omega)
      show uvarintFrom i acc ((x % 128 + 128).toUInt8 :: (uvarint (x / 128) ++ t)) = _
      have hk7 : 7 < k := by
        apply Classical.byContradiction
        intro hc
        have : 2 ^ k ≤ 2 ^ 7 := Nat.pow_le_pow_right (by decide) (by omega)
        omega
      rw [uvarintFrom, if_neg (by omega), hb, if_neg (by omega), ih (k - 7) (by omega) (x / 128) (i + 1) _ t ?_ (by omega) (by omega)]
      · congr 1
        · rw [show 7 * (i + 1) = 7 * i + 7 from by omega, Nat.pow_add, show (x % 128 + 128) % 128 = x % 128 from by omega, Nat.add_assoc, Nat.mul_comm (2 ^ (7 * i)) (2 ^ 7), ← Nat.mul_assoc, ← Nat.add_mul]
          congr 2; omega
        · simp; omega
      · have : 2 ^ k = 2 ^ (k - 7) * 128 := by rw [show (128 : Nat) = 2 ^ 7 from rfl, ← Nat.pow_add]; congr 1; omega
        omega

theorem dec_back (z : Nat) (hz : z < 18446744073709551616) (t : List UInt8) : uvarintDec (uvarint z ++ t) = (z, ((uvarint z).length : Int)) := by
  unfold uvarintDec
  rw [from_back 64 z 0 0 t (by simpa using hz) (by omega) (by omega)]
  simp

theorem varint_back (n : Int) (h0 : -9223372036854775808 ≤ n) (h1 : n ≤ 9223372036854775807) (t : List UInt8) :
    varintDec (uvarint (Bit.zz n).toNat ++ t) = (n, ((uvarint (Bit.zz n).toNat).length : Int)) := by
  have hb := Bit.zz_bd n h0 h1
  unfold varintDec
  rw [dec_back _ (by omega)]
  congr 1
  have := Bit.uz_zz n
  unfold Bit.uz at this
  unfold Lib.unzigzag
  dsimp only
  split
  · rw [if_pos (by omega)] at this; omega
  · rw [if_neg (by omega)] at this; omega

/-! ### the walks -/
theorem ret_int {k : IntKind} {a b : Int} (h : a = b) : Ending.returned (.int k a) = .returned (.int k b) := by rw [h]

theorem specZig_any (n : Int) (h0 : -9223372036854775808 ≤ n) (h1 : n ≤ 9223372036854775807) (w : World) :
    Calls Try.prog 25 #[.int .i64 n] w fun e w' => e = .returned (.int .u64 (Bit.zz n)) ∧ Below w.heap.size w w' := by
  by_cases hn : 0 ≤ n
  · go_enter Try.func25, Try.ntmps25
    go_wp2
    go_ret
    exact ⟨ret_int (by unfold Bit.zz; rw [if_pos hn]), Below.refl _ _⟩
  · go_enter Try.func25, Try.ntmps25
    go_wp2
    go_ret
    exact ⟨ret_int (by unfold Bit.zz; rw [if_neg (by omega)]; omega), Below.refl _ _⟩

theorem beq_f {a : Nat} {b : Int} (h : (a : Int) ≠ b) : ((a : Int) == b) = false := by simpa using h

/-- what 'parseSignedVarint' leaves -/
def Parsed (g : Nat) (v m : Int) (w : World) (e : Ending) (w' : World) : Prop := e = .returned (.tuple #[.int .i64 v, .nilIface]) ∧ w'.cell? ⟨g, 1, none⟩ = some (.int .i64 m) ∧ Below g w w'

set_option maxRecDepth 100000 in
set_option maxHeartbeats 4000000 in
theorem parse_any (g b o c n : Nat) (v : Int) (l : List UInt8) (m : Nat) (w : World) (hl : l.length = n) (hn : 0 < n) (hnc : n ≤ c) (hcell : ∀ j (hj : j < l.length), w.cell? ⟨b, o + j, none⟩ = some (.int .u8 (l[j]).toNat))
    (k0 : w.cell? ⟨g, 0, none⟩ = some (.slice (some ⟨b, o, none⟩) n c)) (k1 : w.cell? ⟨g, 1, none⟩ = some (.int .i64 0)) (f1 : w.frozen? ⟨g, 1, none⟩ = false)
    (hdec : varintDec l = (v, (m : Int))) (hm : 0 < m) (hm2 : m ≤ 10) :
    Calls Try.prog 65 #[.pointer (some ⟨g, 0, none⟩)] w (Parsed g v m w) := by
  have hg : g < w.heap.size := World.block_lt_of_cell? w _ k0
  have hc0 : ¬ c = 0 := by omega
  have n1 : (0 : Int) ≤ (n : Int) := by omega
  have n2 : (n : Int) ≤ (c : Int) := by omega
  go_enter Try.func65, Try.ntmps65
  go_wp2_with fail
  refine region_reads (fun w' => w'.cell? ⟨g, 0, none⟩ = some (.slice (some ⟨b, o, none⟩) n c) ∧ w'.cell? ⟨g, 1, none⟩ = some (.int .i64 0) ∧ ∀ j (hj : j < l.length), w'.cell? ⟨b, o + j, none⟩ = some (.int .u8 (l[j]).toNat))
    (fun d os => ⟨cell_regrown k0 d os, cell_regrown k1 d os, fun j hj => cell_regrown (hcell j hj) d os⟩) (by kernel_rfl) (by kernel_rfl) ?_
  intro W1 hz hS
  have g0 := fun d os => (hS d os).1
  have g1 := fun d os => (hS d os).2.1
  have c1 : Hid (∀ d os, Calls Try.prog 80 #[.slice (some ⟨b, o, none⟩) n c] (grow (redrawn W1 d) os) fun e w'' => e = .returned (.tuple #[.int .i64 v, .int .i64 m]) ∧ Cls W1 w'') := by
    intro d os
    refine (Try.binary_Varint b o n c l _ hl (hS d os).2.2).mono ?_
    rintro e w' ⟨rfl, rfl⟩
    rw [hdec]
    exact ⟨rfl, ⟨d, os⟩, rfl⟩
  clear hS hcell hdec hl
  repeat (refine @quiet_cons _ _ _ _ _ _ _ _ rfl (fun K hK => ?_); go_simp; first | (refine hK _ ?_; clear hK K) | (apply Exists.intro; refine ⟨fun _ => ?_, hK _ ?_⟩; (exact c1.out _ _); clear hK K))
  refine quiet_nil rfl ?_
  intro w2 hb2
  have k1' := kcell hb2 hg k1
  have f1' := kfroz hb2 hg f1
  have m1 : (m : Int) ≠ 0 := by omega
  have m2 : (0 : Int) < (m : Int) := by omega
  have m3 : (m : Int) ≤ 10 := by omega
  have m4 := beq_f m1
  clear g0 g1 c1 k0 k1 f1 hz hc0
  have hg2 := hb2.size
  have hbb : Below g w w2 := hb2.mono (by omega)
  clear hb2
  go_wp2_with fail
  go_ret2
  refine ⟨rfl, ?_, ?_⟩
  · go_simp
  · exact hbb.setCell (Nat.le_refl _) _
end Go.Proofs.Ytmdllkjlbalbpaa.Uva
