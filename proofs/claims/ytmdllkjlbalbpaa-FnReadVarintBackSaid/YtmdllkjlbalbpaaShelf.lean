/-
  The shelf's contracts of Go's own library at this seat's translation, laid in plain words by the kit's programs lay-shelf.mjs and lay-plain.mjs. Their conditions stand in each theorem.
-/
import Derived.Ground.MnProg
import Derived.Shelf.Bin.Uvarint
import Derived.Shelf.Bin.Varint
import Derived.Shelf.Bin.UvarintEmpty
import Derived.Shelf.Bin.VarintEmpty
import Derived.Test.YtmdllkjlbalbpaaProg
namespace Go.Proofs
open Go.Shelf
def Try.laysBin45_ren : Go.Shelf.Ren := ⟨fun | 45 => 91 | n => n, fun | 22 => 44 | 33 => 22 | 3 => 3 | 45 => 124 | 0 => 0 | 5 => 5 | 4 => 4 | n => n, fun | n => n⟩
theorem Try.laysBin45 : Go.Proofs.LaysBin.n45 Try.prog Try.laysBin45_ren := {
  mixed := by kernel_rfl
  f45 := Try.func91.trans (congrArg some (by kernel_rfl))
  t0 := Try.underlying0
  a0 := Try.isAgg0
  z0 := Try.sizeOf0
  v0 := Try.zeroValue0
  i0 := by kernel_rfl
  t3 := Try.underlying3
  a3 := Try.isAgg3
  z3 := Try.sizeOf3
  v3 := Try.zeroValue3
  i3 := by kernel_rfl
  t4 := Try.underlying4
  a4 := Try.isAgg4
  z4 := Try.sizeOf4
  v4 := Try.zeroValue4
  i4 := by kernel_rfl
  t5 := Try.underlying5
  a5 := Try.isAgg5
  z5 := Try.sizeOf5
  v5 := Try.zeroValue5
  i5 := by kernel_rfl
  t22 := Try.underlying44
  a22 := Try.isAgg44
  z22 := Try.sizeOf44
  v22 := Try.zeroValue44
  i22 := by kernel_rfl
  t33 := Try.underlying22
  a33 := Try.isAgg22
  z33 := Try.sizeOf22
  v33 := Try.zeroValue22
  i33 := by kernel_rfl
  t45 := Try.underlying124
  a45 := Try.isAgg124
  z45 := Try.sizeOf124
  v45 := Try.zeroValue124
  i45 := by kernel_rfl }
open Go.RowKit in
theorem Try.binary_Uvarint (g o n c : Nat) (l : List UInt8) (w : World) (hl : l.length = n) (hcell : ∀ j (hj : j < l.length), w.cell? ⟨g, o + j, none⟩ = some (.int .u8 (l[j]).toNat)) :
    Calls Try.prog 91 #[.slice (some ⟨g, o, none⟩) n c] w fun e w' => e = .returned (.tuple #[.int .u64 (Lib.uvarintDec l).1, .int .i64 (Lib.uvarintDec l).2]) ∧ w' = w := Any.binary_Uvarint Try.laysBin45 g o n c l w hl hcell
def Try.laysBin48_ren : Go.Shelf.Ren := ⟨fun | 48 => 80 | 45 => 91 | n => n, fun | 22 => 44 | 2 => 2 | 3 => 3 | 38 => 141 | 33 => 22 | 45 => 124 | 4 => 4 | 0 => 0 | 5 => 5 | n => n, fun | n => n⟩
theorem Try.laysBin48 : Go.Proofs.LaysBin.n48 Try.prog Try.laysBin48_ren := {
  mixed := by kernel_rfl
  f45 := Try.func91.trans (congrArg some (by kernel_rfl))
  f48 := Try.func80.trans (congrArg some (by kernel_rfl))
  t0 := Try.underlying0
  a0 := Try.isAgg0
  z0 := Try.sizeOf0
  v0 := Try.zeroValue0
  i0 := by kernel_rfl
  t2 := Try.underlying2
  a2 := Try.isAgg2
  z2 := Try.sizeOf2
  v2 := Try.zeroValue2
  i2 := by kernel_rfl
  t3 := Try.underlying3
  a3 := Try.isAgg3
  z3 := Try.sizeOf3
  v3 := Try.zeroValue3
  i3 := by kernel_rfl
  t4 := Try.underlying4
  a4 := Try.isAgg4
  z4 := Try.sizeOf4
  v4 := Try.zeroValue4
  i4 := by kernel_rfl
  t5 := Try.underlying5
  a5 := Try.isAgg5
  z5 := Try.sizeOf5
  v5 := Try.zeroValue5
  i5 := by kernel_rfl
  t22 := Try.underlying44
  a22 := Try.isAgg44
  z22 := Try.sizeOf44
  v22 := Try.zeroValue44
  i22 := by kernel_rfl
  t33 := Try.underlying22
  a33 := Try.isAgg22
  z33 := Try.sizeOf22
  v33 := Try.zeroValue22
  i33 := by kernel_rfl
  t38 := Try.underlying141
  a38 := Try.isAgg141
  z38 := Try.sizeOf141
  v38 := Try.zeroValue141
  i38 := by kernel_rfl
  t45 := Try.underlying124
  a45 := Try.isAgg124
  z45 := Try.sizeOf124
  v45 := Try.zeroValue124
  i45 := by kernel_rfl }
open Go.RowKit in
theorem Try.binary_Varint (g o n c : Nat) (l : List UInt8) (w : World) (hl : l.length = n) (hcell : ∀ j (hj : j < l.length), w.cell? ⟨g, o + j, none⟩ = some (.int .u8 (l[j]).toNat)) :
    Calls Try.prog 80 #[.slice (some ⟨g, o, none⟩) n c] w fun e w' => e = .returned (.tuple #[.int .i64 (Lib.varintDec l).1, .int .i64 (Lib.varintDec l).2]) ∧ w' = w := Any.binary_Varint Try.laysBin48 g o n c l w hl hcell
open Go.RowKit in
theorem Try.binary_Uvarint_empty (ao : Option Addr) (c : Nat) (w : World) :
    Calls Try.prog 91 #[.slice ao 0 c] w fun e w' => e = .returned (.tuple #[.int .u64 (Lib.uvarintDec []).1, .int .i64 (Lib.uvarintDec []).2]) ∧ w' = w := Any.binary_Uvarint_empty Try.laysBin45 ao c w
open Go.RowKit in
theorem Try.binary_Varint_empty (ao : Option Addr) (c : Nat) (w : World) :
    Calls Try.prog 80 #[.slice ao 0 c] w fun e w' => e = .returned (.tuple #[.int .i64 (Lib.varintDec []).1, .int .i64 (Lib.varintDec []).2]) ∧ w' = w := Any.binary_Varint_empty Try.laysBin48 ao c w
end Go.Proofs
