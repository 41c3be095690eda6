/-
  The doors to the package's reading of one signed number.
-/
import Derived.Test.YtmdllkjlbalbpaaVarint
namespace Go.Proofs.Ytmdllkjlbalbpaa.Uva
open Go.ChangeShapes Go.WideShapes Go.ChangeAt Go.RowKit Go.Sort
open Lib (uvarint byteCells uvarintFrom uvarintDec varintDec)
attribute [local irreducible] wpQuiet

/-- a reader that is fresh; its zero -/
abbrev fresh (A : Option Addr) (n c : Nat) : Array Value := #[.slice A n c, .int .i64 0, .int .i64 0, .int .u8 0, .int .i64 2, .int .i64 0, .bool false, .bool false, .int .i64 0, .int .i64 0, .float .f64 0, .float .f64 0, .float .f64 0, .float .f64 0, .bool false, .bool false, .bool false, .bool false, .bool false, .slice none 0 0, .slice none 0 0, .int .i64 0, .int .i64 0, .int .i64 0, .int .i64 0]
abbrev zeroTp : Array Value := #[.slice none 0 0, .int .i64 0, .int .i64 0, .int .u8 0, .int .i64 0, .int .i64 0, .bool false, .bool false, .int .i64 0, .int .i64 0, .float .f64 0, .float .f64 0, .float .f64 0, .float .f64 0, .bool false, .bool false, .bool false, .bool false, .bool false, .slice none 0 0, .slice none 0 0, .int .i64 0, .int .i64 0, .int .i64 0, .int .i64 0]

theorem build_tp (A : Option Addr) (n c : Nat) (w : World) : (Instr.build 112 #[(0, .slice A n c), (3, .int .u8 0), (4, .int .i64 2)]).run Try.prog w = .ok (.agg (fresh A n c)) w :=
  run_build w 112 _ _ (by kernel_rfl)
attribute [local go_sem ↓] build_tp
theorem one_tp (A : Option Addr) (n c : Nat) : (fresh A n c).all (·.oneCell') = true := by simp [Value.oneCell']

set_option maxRecDepth 100000 in
set_option maxHeartbeats 4000000 in
theorem new_any (A : Option Addr) (n c : Nat) (w : World) :
    Calls Try.prog 64 #[.slice A n c] w fun e w' => e = .returned (.agg (fresh A n c)) ∧ Below w.heap.size w w' := by
  go_enter Try.func64, Try.ntmps64
  go_wp2_with (refine wpList_store_new rfl 112 _ _ rfl zeroTp (fresh A n c) rfl rfl (by kernel_rfl) rfl (one_tp A n c) ?_)
  refine bodyPost_ret (v := .agg (fresh A n c)) ?_ rfl ⟨rfl, ((Below.refl _ _).alloc (Nat.le_refl _) _)⟩
  have hl := run_loadVar_newS (P := Try.prog) w 112 (fresh A n c) 25 (fun w => by rw [Try.isAgg112]) (fun w => by rw [Try.sizeOf112]) rfl
  exact results_cell1 rfl _ rfl hl

set_option maxRecDepth 100000 in
set_option maxHeartbeats 4000000 in
theorem door_any (b o c n : Nat) (v : Int) (l : List UInt8) (m : Nat) (w : World) (hb : b < w.heap.size) (hl : l.length = n) (hn : 0 < n) (hnc : n ≤ c) (hcell : ∀ j (hj : j < l.length), w.cell? ⟨b, o + j, none⟩ = some (.int .u8 (l[j]).toNat))
    (hdec : varintDec l = (v, (m : Int))) (hm : 0 < m) (hm2 : m ≤ 10) :
    Calls Try.prog 46 #[.slice (some ⟨b, o, none⟩) n c] w fun e w' => e = .returned (.tuple #[.int .i64 v, .int .i64 m, .nilIface]) ∧ Below w.heap.size w w' := by
  have hcell' := Lib.hid hcell
  have hdec' := Lib.hid hdec
  clear hcell hdec
  go_enter Try.func46, Try.ntmps46
  go_wp2_with fail
  refine (new_any (some ⟨b, o, none⟩) n c _).mono ?_
  rintro e w1 ⟨rfl, hb1⟩
  have hs1 := hb1.size
  go_wp2_with (refine wpList_store_new rfl 112 _ _ rfl zeroTp (fresh (some ⟨b, o, none⟩) n c) rfl rfl (by kernel_rfl) rfl (one_tp _ n c) ?_)
  refine (parse_any w1.heap.size b o c n v l m _ hl hn hnc ?_ (by go_simp) (by go_simp) (by go_simp) hdec'.out hm hm2).mono ?_
  · intro j hj
    rw [World.cell?_alloc_lt w1 _ ⟨b, o + j, none⟩ (by dsimp only; omega)]
    exact kcell hb1 hb (hcell'.out j hj)
  rintro e w2 ⟨rfl, hc2, hb2⟩
  have hbb : Below w.heap.size w w2 := (hb1.alloc hs1 _).trans (hb2.mono hs1)
  clear hb1 hb2
  go_wp2_with fail
  refine region_reads (fun w' => w'.cell? ⟨w1.heap.size, 1, none⟩ = some (.int .i64 m)) (fun d os => cell_regrown hc2 d os) (by kernel_rfl) (by kernel_rfl) ?_
  intro W1 hz hS
  repeat (refine @quiet_cons _ _ _ _ _ _ _ _ rfl (fun K hK => ?_); go_simp; first | (refine hK _ ?_; clear hK K) | (apply Exists.intro; refine ⟨fun _ => ?_, hK _ ?_⟩; (fail); clear hK K))
  refine quiet_nil rfl ?_
  intro w3 hb3
  have hbb3 : Below w.heap.size w w3 := hbb.trans (hb3.mono hbb.size)
  clear hb3 hbb hS hz hc2
  go_wp2_with fail
  go_ret3
  exact ⟨rfl, hbb3⟩
end Go.Proofs.Ytmdllkjlbalbpaa.Uva
