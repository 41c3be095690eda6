/-
  NARROWER THAN 'FOR EVERY INPUT', by the rows' own cells (each row's printed sentence says how): FnSeqGet: loops · FnSeqLess: loops.
  DERIVED. THE GIVEN ROWS OF THIS SEAT. 8 by the template 'for every input the law returns true; each argument reads behind the call as it read before'; 0 by the template 'total and deterministic' (their statements: YtmdllkjlbalbpaaTotals.lean).
  GIVEN WITH THE SEED: the statements are not yours to turn. If you find one false, say at which input.
  Laid BY PROGRAM, IN A SANDBOX (cutbox-rows.mjs): the forced cells as the released guide's own fill.sh prints them over the translation 364af6e6a12b0ee3… (all of the seat's roots in one cut). By AI agents, Wed Nov 11 2026. No macro, syntax, notation, axiom, sorry.
-/
import Derived.Test.YtmdllkjlbalbpaaChecked
import GoSem.Claim
import GoSem.ClaimJoined
import GoSem.ClaimMapViews
import Derived.JoinedTies
import Derived.KernelRfl
namespace Go.Proofs.Ytmdllkjlbalbpaa
/- THE CELL 'sum', in the pinned program and in every row, IS THE sha256 OF THE DUMP (.gsa) THAT YtmdllkjlbalbpaaProg.lean LOADS. Nothing in Lean hashes anything: it is a label: what it is worth is what the hold of that sum in a sandbox is worth. -/
noncomputable def Try.pinned : Pinned := { name := "ytmdllkjlbalbpaa", sum := "364af6e6a12b0ee3a08628048dde0152658cf4dfdf4221f02879b8326d472b35", checked := Try.checked }
namespace Rows
def none {H : Type} : Left H := { results := [], args := [] }

/-- 'laws.FnZigZagBack': WHATEVER THE INPUT: true; the input reads as it did. -/
def fnZigZagBackSpec : ChangeSpec := { name := "fnZigZagBack", fn := fun _ => fun
  | [d1, d2] => { results := [.lit (.bool true)], args := [d1, d2] }
  | _ => none }
def fnZigZagBackRow : OpenClaim := { program := "ytmdllkjlbalbpaa", sum := "364af6e6a12b0ee3a08628048dde0152658cf4dfdf4221f02879b8326d472b35", func := "pub-alidade/laws.FnZigZagBack", spec := "fnZigZagBack", apart := false }
def FnZigZagBackSaid : Prop := fnZigZagBackRow.holds Try.pinned (OpenSpec.ofChange fnZigZagBackSpec)

/-- ITS FALSE NEIGHBOUR: 'it returns false'. Refute it at one input. -/
def fnZigZagBackWrong : ChangeSpec := { name := "fnZigZagBack", fn := fun _ => fun
  | [d1, d2] => { results := [.lit (.bool false)], args := [d1, d2] }
  | _ => none }
def FnZigZagBackWrongFalsely : Prop := fnZigZagBackRow.holds Try.pinned (OpenSpec.ofChange fnZigZagBackWrong)

/-- 'laws.FnTurn': WHATEVER THE INPUT: true; the input reads as it did. -/
def fnTurnSpec : ChangeSpec := { name := "fnTurn", fn := fun _ => fun
  | [d1, d2, d3] => { results := [.lit (.bool true)], args := [d1, d2, d3] }
  | _ => none }
def fnTurnRow : OpenClaim := { program := "ytmdllkjlbalbpaa", sum := "364af6e6a12b0ee3a08628048dde0152658cf4dfdf4221f02879b8326d472b35", func := "pub-alidade/laws.FnTurn", spec := "fnTurn", recurses := true, apart := false }
def FnTurnSaid : Prop := fnTurnRow.holds Try.pinned (OpenSpec.ofChange fnTurnSpec)

/-- ITS FALSE NEIGHBOUR: 'it returns false'. Refute it at one input. -/
def fnTurnWrong : ChangeSpec := { name := "fnTurn", fn := fun _ => fun
  | [d1, d2, d3] => { results := [.lit (.bool false)], args := [d1, d2, d3] }
  | _ => none }
def FnTurnWrongFalsely : Prop := fnTurnRow.holds Try.pinned (OpenSpec.ofChange fnTurnWrong)

/-- 'laws.FnRadialOrder': WHATEVER THE INPUT: true; the input reads as it did. -/
def fnRadialOrderSpec : ChangeSpec := { name := "fnRadialOrder", fn := fun _ => fun
  | [d1, d2, d3] => { results := [.lit (.bool true)], args := [d1, d2, d3] }
  | _ => none }
def fnRadialOrderRow : OpenClaim := { program := "ytmdllkjlbalbpaa", sum := "364af6e6a12b0ee3a08628048dde0152658cf4dfdf4221f02879b8326d472b35", func := "pub-alidade/laws.FnRadialOrder", spec := "fnRadialOrder", recurses := true, apart := false }
def FnRadialOrderSaid : Prop := fnRadialOrderRow.holds Try.pinned (OpenSpec.ofChange fnRadialOrderSpec)

/-- ITS FALSE NEIGHBOUR: 'it returns false'. Refute it at one input. -/
def fnRadialOrderWrong : ChangeSpec := { name := "fnRadialOrder", fn := fun _ => fun
  | [d1, d2, d3] => { results := [.lit (.bool false)], args := [d1, d2, d3] }
  | _ => none }
def FnRadialOrderWrongFalsely : Prop := fnRadialOrderRow.holds Try.pinned (OpenSpec.ofChange fnRadialOrderWrong)

/-- 'laws.FnMatchesStars': WHATEVER THE INPUT: true; the input reads as it did. -/
def fnMatchesStarsSpec : ChangeSpec := { name := "fnMatchesStars", fn := fun _ => fun
  | [d1, d2, d3] => { results := [.lit (.bool true)], args := [d1, d2, d3] }
  | _ => none }
def fnMatchesStarsRow : OpenClaim := { program := "ytmdllkjlbalbpaa", sum := "364af6e6a12b0ee3a08628048dde0152658cf4dfdf4221f02879b8326d472b35", func := "pub-alidade/laws.FnMatchesStars", spec := "fnMatchesStars", apart := false }
def FnMatchesStarsSaid : Prop := fnMatchesStarsRow.holds Try.pinned (OpenSpec.ofChange fnMatchesStarsSpec)

/-- ITS FALSE NEIGHBOUR: 'it returns false'. Refute it at one input. -/
def fnMatchesStarsWrong : ChangeSpec := { name := "fnMatchesStars", fn := fun _ => fun
  | [d1, d2, d3] => { results := [.lit (.bool false)], args := [d1, d2, d3] }
  | _ => none }
def FnMatchesStarsWrongFalsely : Prop := fnMatchesStarsRow.holds Try.pinned (OpenSpec.ofChange fnMatchesStarsWrong)

/-- 'laws.FnXYAddSub': WHATEVER THE INPUT: true; the input reads as it did. -/
def fnXYAddSubSpec : ChangeSpec := { name := "fnXYAddSub", fn := fun _ => fun
  | [d1, d2] => { results := [.lit (.bool true)], args := [d1, d2] }
  | _ => none }
def fnXYAddSubRow : OpenClaim := { program := "ytmdllkjlbalbpaa", sum := "364af6e6a12b0ee3a08628048dde0152658cf4dfdf4221f02879b8326d472b35", func := "pub-alidade/laws.FnXYAddSub", spec := "fnXYAddSub", inPlace := ["math.archTrunc", "math.Float64bits", "math.Float64frombits"], apart := false }
def FnXYAddSubSaid : Prop := fnXYAddSubRow.holds Try.pinned (OpenSpec.ofChange fnXYAddSubSpec)

/-- ITS FALSE NEIGHBOUR: 'it returns false'. Refute it at one input. -/
def fnXYAddSubWrong : ChangeSpec := { name := "fnXYAddSub", fn := fun _ => fun
  | [d1, d2] => { results := [.lit (.bool false)], args := [d1, d2] }
  | _ => none }
def FnXYAddSubWrongFalsely : Prop := fnXYAddSubRow.holds Try.pinned (OpenSpec.ofChange fnXYAddSubWrong)

/-- 'laws.FnReadVarintBack': WHATEVER THE INPUT: true; the input reads as it did. -/
def fnReadVarintBackSpec : ChangeSpec := { name := "fnReadVarintBack", fn := fun _ => fun
  | [d1, d2] => { results := [.lit (.bool true)], args := [d1, d2] }
  | _ => none }
def fnReadVarintBackRow : OpenClaim := { program := "ytmdllkjlbalbpaa", sum := "364af6e6a12b0ee3a08628048dde0152658cf4dfdf4221f02879b8326d472b35", func := "pub-alidade/laws.FnReadVarintBack", spec := "fnReadVarintBack", apart := false }
def FnReadVarintBackSaid : Prop := fnReadVarintBackRow.holds Try.pinned (OpenSpec.ofChange fnReadVarintBackSpec)

/-- ITS FALSE NEIGHBOUR: 'it returns false'. Refute it at one input. -/
def fnReadVarintBackWrong : ChangeSpec := { name := "fnReadVarintBack", fn := fun _ => fun
  | [d1, d2] => { results := [.lit (.bool false)], args := [d1, d2] }
  | _ => none }
def FnReadVarintBackWrongFalsely : Prop := fnReadVarintBackRow.holds Try.pinned (OpenSpec.ofChange fnReadVarintBackWrong)

/-- 'laws.FnSeqGet': WHATEVER THE INPUT: true; the input reads as it did. -/
def fnSeqGetSpec : ChangeSpec := { name := "fnSeqGet", fn := fun _ => fun
  | [d1, d2] => { results := [.lit (.bool true)], args := [d1, d2] }
  | _ => none }
def fnSeqGetRow : OpenClaim := { program := "ytmdllkjlbalbpaa", sum := "364af6e6a12b0ee3a08628048dde0152658cf4dfdf4221f02879b8326d472b35", func := "pub-alidade/laws.FnSeqGet", spec := "fnSeqGet", inPlace := ["math.Float64bits"], unfollowed := true, recurses := true, loops := true, apart := false }
def FnSeqGetSaid : Prop := fnSeqGetRow.holds Try.pinned (OpenSpec.ofChange fnSeqGetSpec)

/-- ITS FALSE NEIGHBOUR: 'it returns false'. Refute it at one input. -/
def fnSeqGetWrong : ChangeSpec := { name := "fnSeqGet", fn := fun _ => fun
  | [d1, d2] => { results := [.lit (.bool false)], args := [d1, d2] }
  | _ => none }
def FnSeqGetWrongFalsely : Prop := fnSeqGetRow.holds Try.pinned (OpenSpec.ofChange fnSeqGetWrong)

/-- 'laws.FnSeqLess': WHATEVER THE INPUT: true; the input reads as it did. -/
def fnSeqLessSpec : ChangeSpec := { name := "fnSeqLess", fn := fun _ => fun
  | [d1, d2] => { results := [.lit (.bool true)], args := [d1, d2] }
  | _ => none }
def fnSeqLessRow : OpenClaim := { program := "ytmdllkjlbalbpaa", sum := "364af6e6a12b0ee3a08628048dde0152658cf4dfdf4221f02879b8326d472b35", func := "pub-alidade/laws.FnSeqLess", spec := "fnSeqLess", unfollowed := true, recurses := true, loops := true, apart := false }
def FnSeqLessSaid : Prop := fnSeqLessRow.holds Try.pinned (OpenSpec.ofChange fnSeqLessSpec)

/-- ITS FALSE NEIGHBOUR: 'it returns false'. Refute it at one input. -/
def fnSeqLessWrong : ChangeSpec := { name := "fnSeqLess", fn := fun _ => fun
  | [d1, d2] => { results := [.lit (.bool false)], args := [d1, d2] }
  | _ => none }
def FnSeqLessWrongFalsely : Prop := fnSeqLessRow.holds Try.pinned (OpenSpec.ofChange fnSeqLessWrong)

/- THE SECOND FORM. 'bulk': how many values and letters a reading holds, each counted each time it is reached (what is shared counts as often as it is met; a slice's spare places count too). A statement '..UptoSaid' is the law's where the arguments, and the package variables that the reading takes, are together of bulk at most 1048576: NARROWER than '..Said'. Prove '..Said' where nothing that the law and all that it calls make is longer than what came in: it says more and counts as full. Else prove '..UptoSaid'. A law counts once. -/
mutual
def uptoBulk {H : Type} : DataW H → Nat
  | .lit (.string bytes) => bytes.length + 1
  | .lit _ => 1
  | .nil => 1
  | .ptr d => uptoBulk d + 1
  | .slice elems spare => uptoBulkAll elems + uptoBulkAll spare + 1
  | .agg parts => uptoBulkAll parts + 1
  | .iface _ d => uptoBulk d + 1
  | .map entries => uptoBulkEntries entries + 1
  | .held _ => 1
def uptoBulkAll {H : Type} : List (DataW H) → Nat
  | [] => 0
  | d :: r => uptoBulk d + uptoBulkAll r
def uptoBulkEntries {H : Type} : List (Lit × DataW H) → Nat
  | [] => 0
  | x :: r => uptoBulkEntry x + uptoBulkEntries r
def uptoBulkEntry {H : Type} : Lit × DataW H → Nat
  | (.string bytes, d) => bytes.length + uptoBulk d + 1
  | (_, d) => uptoBulk d + 1
 end
def uptoSmall : (H : Type) → List (DataW H) → Bool := fun _ ds => decide (uptoBulkAll ds ≤ 1048576)
def OpenSpec.upto (s : _root_.Go.ChangeSpec) : _root_.Go.OpenSpec := { _root_.Go.OpenSpec.ofChange s with cond := some uptoSmall }

/-- 'laws.FnZigZagBack', WHERE WHAT IT READS IS OF BULK AT MOST 1048576: true; the input reads as it did. -/
def fnZigZagBackUptoRow : OpenClaim := { program := "ytmdllkjlbalbpaa", sum := "364af6e6a12b0ee3a08628048dde0152658cf4dfdf4221f02879b8326d472b35", func := "pub-alidade/laws.FnZigZagBack", spec := "fnZigZagBack", apart := false, narrowed := true }
def FnZigZagBackUptoSaid : Prop := fnZigZagBackUptoRow.holds Try.pinned (OpenSpec.upto fnZigZagBackSpec)

/-- 'laws.FnTurn', WHERE WHAT IT READS IS OF BULK AT MOST 1048576: true; the input reads as it did. -/
def fnTurnUptoRow : OpenClaim := { program := "ytmdllkjlbalbpaa", sum := "364af6e6a12b0ee3a08628048dde0152658cf4dfdf4221f02879b8326d472b35", func := "pub-alidade/laws.FnTurn", spec := "fnTurn", recurses := true, apart := false, narrowed := true }
def FnTurnUptoSaid : Prop := fnTurnUptoRow.holds Try.pinned (OpenSpec.upto fnTurnSpec)

/-- 'laws.FnRadialOrder', WHERE WHAT IT READS IS OF BULK AT MOST 1048576: true; the input reads as it did. -/
def fnRadialOrderUptoRow : OpenClaim := { program := "ytmdllkjlbalbpaa", sum := "364af6e6a12b0ee3a08628048dde0152658cf4dfdf4221f02879b8326d472b35", func := "pub-alidade/laws.FnRadialOrder", spec := "fnRadialOrder", recurses := true, apart := false, narrowed := true }
def FnRadialOrderUptoSaid : Prop := fnRadialOrderUptoRow.holds Try.pinned (OpenSpec.upto fnRadialOrderSpec)

/-- 'laws.FnMatchesStars', WHERE WHAT IT READS IS OF BULK AT MOST 1048576: true; the input reads as it did. -/
def fnMatchesStarsUptoRow : OpenClaim := { program := "ytmdllkjlbalbpaa", sum := "364af6e6a12b0ee3a08628048dde0152658cf4dfdf4221f02879b8326d472b35", func := "pub-alidade/laws.FnMatchesStars", spec := "fnMatchesStars", apart := false, narrowed := true }
def FnMatchesStarsUptoSaid : Prop := fnMatchesStarsUptoRow.holds Try.pinned (OpenSpec.upto fnMatchesStarsSpec)

/-- 'laws.FnXYAddSub', WHERE WHAT IT READS IS OF BULK AT MOST 1048576: true; the input reads as it did. -/
def fnXYAddSubUptoRow : OpenClaim := { program := "ytmdllkjlbalbpaa", sum := "364af6e6a12b0ee3a08628048dde0152658cf4dfdf4221f02879b8326d472b35", func := "pub-alidade/laws.FnXYAddSub", spec := "fnXYAddSub", inPlace := ["math.archTrunc", "math.Float64bits", "math.Float64frombits"], apart := false, narrowed := true }
def FnXYAddSubUptoSaid : Prop := fnXYAddSubUptoRow.holds Try.pinned (OpenSpec.upto fnXYAddSubSpec)

/-- 'laws.FnReadVarintBack', WHERE WHAT IT READS IS OF BULK AT MOST 1048576: true; the input reads as it did. -/
def fnReadVarintBackUptoRow : OpenClaim := { program := "ytmdllkjlbalbpaa", sum := "364af6e6a12b0ee3a08628048dde0152658cf4dfdf4221f02879b8326d472b35", func := "pub-alidade/laws.FnReadVarintBack", spec := "fnReadVarintBack", apart := false, narrowed := true }
def FnReadVarintBackUptoSaid : Prop := fnReadVarintBackUptoRow.holds Try.pinned (OpenSpec.upto fnReadVarintBackSpec)

/-- 'laws.FnSeqGet', WHERE WHAT IT READS IS OF BULK AT MOST 1048576: true; the input reads as it did. -/
def fnSeqGetUptoRow : OpenClaim := { program := "ytmdllkjlbalbpaa", sum := "364af6e6a12b0ee3a08628048dde0152658cf4dfdf4221f02879b8326d472b35", func := "pub-alidade/laws.FnSeqGet", spec := "fnSeqGet", inPlace := ["math.Float64bits"], unfollowed := true, recurses := true, loops := true, apart := false, narrowed := true }
def FnSeqGetUptoSaid : Prop := fnSeqGetUptoRow.holds Try.pinned (OpenSpec.upto fnSeqGetSpec)

/-- 'laws.FnSeqLess', WHERE WHAT IT READS IS OF BULK AT MOST 1048576: true; the input reads as it did. -/
def fnSeqLessUptoRow : OpenClaim := { program := "ytmdllkjlbalbpaa", sum := "364af6e6a12b0ee3a08628048dde0152658cf4dfdf4221f02879b8326d472b35", func := "pub-alidade/laws.FnSeqLess", spec := "fnSeqLess", unfollowed := true, recurses := true, loops := true, apart := false, narrowed := true }
def FnSeqLessUptoSaid : Prop := fnSeqLessUptoRow.holds Try.pinned (OpenSpec.upto fnSeqLessSpec)

end Rows
end Go.Proofs.Ytmdllkjlbalbpaa
