/-
  'impl.ReadVarint': the number that the package reads, and how many bytes it takes.
-/
import Derived.Test.YtmdllkjlbalbpaaDoorVarint
namespace Go.Proofs.Ytmdllkjlbalbpaa.Uva
open Go.ChangeShapes Go.WideShapes Go.ChangeAt Go.RowKit Go.Sort
open Lib (uvarint byteCells uvarintFrom uvarintDec varintDec)
attribute [local irreducible] wpQuiet

set_option maxRecDepth 100000 in
set_option maxHeartbeats 4000000 in
theorem read_any (b o c n : Nat) (v : Int) (l : List UInt8) (m : Nat) (w : World) (hb : b < w.heap.size) (hl : l.length = n) (hn : 0 < n) (hnc : n ≤ c) (hcell : ∀ j (hj : j < l.length), w.cell? ⟨b, o + j, none⟩ = some (.int .u8 (l[j]).toNat))
    (hdec : varintDec l = (v, (m : Int))) (hm : 0 < m) (hm2 : m ≤ 10) :
    Calls Try.prog 26 #[.slice (some ⟨b, o, none⟩) n c] w fun e w' => e = .returned (.tuple #[.int .i64 v, .int .i64 m, .bool true]) ∧ Below w.heap.size w w' := by
  have hcell' := Lib.hid hcell
  have hdec' := Lib.hid hdec
  clear hcell hdec
  go_enter Try.func26, Try.ntmps26
  go_wp2_with fail
  refine (door_any b o c n v l m _ hb hl hn hnc hcell'.out hdec'.out hm hm2).mono ?_
  rintro e w1 ⟨rfl, hb1⟩
  go_wp2_with fail
  refine region_reads (fun _ => True) (fun d os => trivial) (by kernel_rfl) (by kernel_rfl) ?_
  intro W1 hz hS
  repeat (refine @quiet_cons _ _ _ _ _ _ _ _ rfl (fun K hK => ?_); go_simp; first | (refine hK _ ?_; clear hK K) | (apply Exists.intro; refine ⟨fun _ => ?_, hK _ ?_⟩; (fail); clear hK K))
  refine quiet_nil rfl ?_
  intro w3 hb3
  have hbb3 : Below w.heap.size w w3 := hb1.trans (hb3.mono hb1.size)
  clear hb3 hb1 hS hz
  go_wp2_with fail
  go_ret3
  exact ⟨rfl, hbb3⟩
end Go.Proofs.Ytmdllkjlbalbpaa.Uva
