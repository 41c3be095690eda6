/-
  The reference's writing of unsigned numbers by seven bits a byte: which bytes it makes; and that they are read back whatever follows. The second part is plain: no program.
-/
import Derived.Test.YtmdllkjlbalbpaaAppend
import Derived.Lib.VarintDec
import Derived.Lib.VarintMem
import Derived.Outline
import Derived.Deep.DeepMust
namespace Go.Proofs.Ytmdllkjlbalbpaa.Uva
open Go.ChangeShapes Go.WideShapes Go.ChangeAt Go.RowKit Go.Sort
open Lib (uvarint byteCells)

theorem info_u8 : (Try.prog.info? 5).map (fun i => (i.zero, i.size, i.bytes)) = some (some (.int .u8 0), 1, 1) := by kernel_rfl

/-- a list of bytes that the call made itself -/
def Made (w : World) (bs : List UInt8) (e : Ending) (w' : World) : Prop :=
  ∃ g cap, e = .returned (.slice (some ⟨g, 0, none⟩) bs.length cap) ∧ w'.ownsRow w.heap.size 5 1 (.slice (some ⟨g, 0, none⟩) bs.length cap) bs.length (byteCells bs) ∧ Below w.heap.size w w'

theorem one_byte (a : Nat) (h : a < 256) : byteCells [a.toUInt8] = [.int .u8 (a : Int)] := by
  have := Lib.byteCells_snoc [] h
  simpa [byteCells] using this

set_option maxRecDepth 100000 in
set_option maxHeartbeats 4000000 in
theorem uvarint_any (z : Nat) (hz : z < 18446744073709551616) (w : World) :
    Calls Try.prog 24 #[.int .u64 (z : Int)] w (Made w (uvarint z)) := by
  obtain ⟨i0, hi0, hz0, hz1, hz2⟩ := info_parts info_u8
  have hlen := Lib.uvarint_length64 hz
  have hz' := Lib.hid hz
  clear hz
  go_enter Try.func24, Try.ntmps24
  go_wp2_with fail
  go_loopw [0, 3] (fun n v wr => ∃ (x : Nat) (pre : List UInt8), n = .int .u64 (x : Int) ∧ x < 18446744073709551616 ∧ wr.ownsRow w.heap.size 5 1 v pre.length (byteCells pre) ∧ uvarint z = pre ++ uvarint x ∧ Below w.heap.size w wr) (fun n _ _ => (intOf n).toNat)
  case atStart => exact ⟨z, [], rfl, hz'.out, ⟨rfl, Or.inl ⟨rfl, rfl⟩⟩, rfl, Below.refl _ _⟩
  case round =>
    obtain ⟨x, pre, rfl, hx, hown, hpre, hb⟩ := hrel
    have hx' := Lib.hid hx
    have hpre' := Lib.hid hpre
    have hpl : pre.length + 1 ≤ 11 := by
      have := congrArg List.length hpre
      have := Lib.uvarint_pos x
      simp at *; omega
    clear hx hpre
    by_cases hlt : 128 ≤ x
    · have t1 : (128 : Int) ≤ (x : Int) := by omega
      have e1 : Hid (byteCells (pre ++ [(x % 128 + 128).toUInt8]) = byteCells pre ++ [.int .u8 ((x : Int) % 128 + 128)]) := by
        have := Lib.byteCells_snoc pre (a := x % 128 + 128) (by omega)
        rw [this]; congr 3
      have e3 : IntKind.u64.wrap ((x : Int) / 128) = (x : Int) / 128 := by rw [IntKind.wrap_u64]; have := hx'.out; omega
      have e2 : Hid (uvarint x = (x % 128 + 128).toUInt8 :: uvarint (x / 128)) := Lib.uvarint_big hlt
      have hbz := hb.size
      go_wp2_with (at_builtin; go_must (refine wpList_append_new rfl _ _ _ rfl w.heap.size 5 i0 (.int .u8 0) 1 1 Try.underlying44 hi0 hz0 hz1 hz2 rfl (by omega) _ pre.length (byteCells pre) rfl hown #[.int .u8 ((x : Int) % 128 + 128)] rfl rfl (by simp [Value.oneCell']) (by unfold maxLen; omega) (by omega) hbz ?_); intro g cap w1 hown1 hb1 _ _; clear hown)
      go_roundw
      case rel =>
        refine ⟨x / 128, pre ++ [(x % 128 + 128).toUInt8], by go_num, ?_, ?_, ?_, hb.trans hb1⟩
        · have := hx'.out; omega
        · rw [e1.out]; simpa using hown1
        · rw [hpre'.out, e2.out]; simp
      case measure => simp [intOf]; omega
    · have t1 : (x : Int) < 128 := by omega
      have t2 : (0 : Int) ≤ (x : Int) := by omega
      have t3 : IntKind.u8.wrap (x : Int) = (x : Int) := by simp [IntKind.wrap, IntKind.bits, IntKind.signed]; omega
      have e1 : Hid (byteCells (pre ++ uvarint x) = byteCells pre ++ [.int .u8 (x : Int)]) := by
        rw [Lib.uvarint_small (by omega)]
        exact Lib.byteCells_snoc pre (a := x) (by omega)
      have e2 : Hid ((uvarint z).length = pre.length + 1) := by rw [hpre'.out, List.length_append, Lib.uvarint_small (by omega)]; rfl
      have hbz := hb.size
      go_wp2_with (at_builtin; go_must (refine wpList_append_new rfl _ _ _ rfl w.heap.size 5 i0 (.int .u8 0) 1 1 Try.underlying44 hi0 hz0 hz1 hz2 rfl (by omega) _ pre.length (byteCells pre) rfl hown #[.int .u8 (x : Int)] rfl rfl (by simp [Value.oneCell']) (by unfold maxLen; omega) (by omega) hbz ?_); intro g cap w1 hown1 hb1 _ _; clear hown)
      go_ret
      refine ⟨g, cap, by rw [e2.out]; rfl, ?_, hb.trans hb1⟩
      rw [e2.out, hpre'.out, e1.out]
      simpa using hown1
end Go.Proofs.Ytmdllkjlbalbpaa.Uva
