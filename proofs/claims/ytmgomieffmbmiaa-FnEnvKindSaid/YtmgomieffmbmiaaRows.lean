/-
  NARROWER THAN 'FOR EVERY INPUT', by the rows' own cells (each row's printed sentence says how): FnLineBytes: loops · FnMultiPolygonForce: loops.
  DERIVED. THE GIVEN ROWS OF THIS SEAT. 6 by the template 'for every input the law returns true; each argument reads behind the call as it read before'; 0 by the template 'total and deterministic' (their statements: YtmgomieffmbmiaaTotals.lean).
  GIVEN WITH THE SEED: the statements are not yours to turn. If you find one false, say at which input.
  Laid BY PROGRAM, IN A SANDBOX (cutbox-rows.mjs): the forced cells as the released guide's own fill.sh prints them over the translation aa85942f5de872a7… (all of the seat's roots in one cut). By AI agents, Wed Nov 11 2026. No macro, syntax, notation, axiom, sorry.
-/
import Derived.Test.YtmgomieffmbmiaaChecked
import GoSem.Claim
import GoSem.ClaimJoined
import GoSem.ClaimMapViews
import Derived.JoinedTies
import Derived.KernelRfl
namespace Go.Proofs.Ytmgomieffmbmiaa
/- THE CELL 'sum', in the pinned program and in every row, IS THE sha256 OF THE DUMP (.gsa) THAT YtmgomieffmbmiaaProg.lean LOADS. Nothing in Lean hashes anything: it is a label: what it is worth is what the hold of that sum in a sandbox is worth. -/
noncomputable def Try.pinned : Pinned := { name := "ytmgomieffmbmiaa", sum := "aa85942f5de872a75a8ee7c0a4e6bf60dbac27339f6f2ad7a6d8a2bca7c2065f", checked := Try.checked }
namespace Rows
def none {H : Type} : Left H := { results := [], args := [] }

/-- 'laws.FnEnvExpandAny': WHATEVER THE INPUT: true; the input reads as it did. -/
def fnEnvExpandAnySpec : ChangeSpec := { name := "fnEnvExpandAny", fn := fun _ => fun
  | [d1, d2, d3] => { results := [.lit (.bool true)], args := [d1, d2, d3] }
  | _ => none }
def fnEnvExpandAnyRow : OpenClaim := { program := "ytmgomieffmbmiaa", sum := "aa85942f5de872a75a8ee7c0a4e6bf60dbac27339f6f2ad7a6d8a2bca7c2065f", func := "pub-alidade/laws.FnEnvExpandAny", spec := "fnEnvExpandAny", inPlace := ["math.Float64bits", "math.Float64frombits"], apart := false }
def FnEnvExpandAnySaid : Prop := fnEnvExpandAnyRow.holds Try.pinned (OpenSpec.ofChange fnEnvExpandAnySpec)

/-- ITS FALSE NEIGHBOUR: 'it returns false'. Refute it at one input. -/
def fnEnvExpandAnyWrong : ChangeSpec := { name := "fnEnvExpandAny", fn := fun _ => fun
  | [d1, d2, d3] => { results := [.lit (.bool false)], args := [d1, d2, d3] }
  | _ => none }
def FnEnvExpandAnyWrongFalsely : Prop := fnEnvExpandAnyRow.holds Try.pinned (OpenSpec.ofChange fnEnvExpandAnyWrong)

/-- 'laws.FnEnvKind': WHATEVER THE INPUT: true; the input reads as it did. -/
def fnEnvKindSpec : ChangeSpec := { name := "fnEnvKind", fn := fun _ => fun
  | [d] => { results := [.lit (.bool true)], args := [d] }
  | _ => none }
def fnEnvKindRow : OpenClaim := { program := "ytmgomieffmbmiaa", sum := "aa85942f5de872a75a8ee7c0a4e6bf60dbac27339f6f2ad7a6d8a2bca7c2065f", func := "pub-alidade/laws.FnEnvKind", spec := "fnEnvKind", inPlace := ["math.Float64bits", "math.Float64frombits"], apart := false }
def FnEnvKindSaid : Prop := fnEnvKindRow.holds Try.pinned (OpenSpec.ofChange fnEnvKindSpec)

/-- ITS FALSE NEIGHBOUR: 'it returns false'. Refute it at one input. -/
def fnEnvKindWrong : ChangeSpec := { name := "fnEnvKind", fn := fun _ => fun
  | [d] => { results := [.lit (.bool false)], args := [d] }
  | _ => none }
def FnEnvKindWrongFalsely : Prop := fnEnvKindRow.holds Try.pinned (OpenSpec.ofChange fnEnvKindWrong)

/-- 'laws.FnSegmentDistanceEnds': WHATEVER THE INPUT: true; the input reads as it did. -/
def fnSegmentDistanceEndsSpec : ChangeSpec := { name := "fnSegmentDistanceEnds", fn := fun _ => fun
  | [d1, d2, d3] => { results := [.lit (.bool true)], args := [d1, d2, d3] }
  | _ => none }
def fnSegmentDistanceEndsRow : OpenClaim := { program := "ytmgomieffmbmiaa", sum := "aa85942f5de872a75a8ee7c0a4e6bf60dbac27339f6f2ad7a6d8a2bca7c2065f", func := "pub-alidade/laws.FnSegmentDistanceEnds", spec := "fnSegmentDistanceEnds", inPlace := ["math.sqrt"], recurses := true, apart := false }
def FnSegmentDistanceEndsSaid : Prop := fnSegmentDistanceEndsRow.holds Try.pinned (OpenSpec.ofChange fnSegmentDistanceEndsSpec)

/-- ITS FALSE NEIGHBOUR: 'it returns false'. Refute it at one input. -/
def fnSegmentDistanceEndsWrong : ChangeSpec := { name := "fnSegmentDistanceEnds", fn := fun _ => fun
  | [d1, d2, d3] => { results := [.lit (.bool false)], args := [d1, d2, d3] }
  | _ => none }
def FnSegmentDistanceEndsWrongFalsely : Prop := fnSegmentDistanceEndsRow.holds Try.pinned (OpenSpec.ofChange fnSegmentDistanceEndsWrong)

/-- 'laws.FnLineBytes': WHATEVER THE INPUT: true; the input reads as it did. -/
def fnLineBytesSpec : ChangeSpec := { name := "fnLineBytes", fn := fun _ => fun
  | [d] => { results := [.lit (.bool true)], args := [d] }
  | _ => none }
def fnLineBytesRow : OpenClaim := { program := "ytmgomieffmbmiaa", sum := "aa85942f5de872a75a8ee7c0a4e6bf60dbac27339f6f2ad7a6d8a2bca7c2065f", func := "pub-alidade/laws.FnLineBytes", spec := "fnLineBytes", inPlace := ["math.Float64bits", "math.Float64frombits"], unfollowed := true, recurses := true, named := ["encoding/binary.LittleEndian"], loops := true, apart := false }
def FnLineBytesSaid : Prop := fnLineBytesRow.holds Try.pinned (OpenSpec.ofChange fnLineBytesSpec)

/-- ITS FALSE NEIGHBOUR: 'it returns false'. Refute it at one input. -/
def fnLineBytesWrong : ChangeSpec := { name := "fnLineBytes", fn := fun _ => fun
  | [d] => { results := [.lit (.bool false)], args := [d] }
  | _ => none }
def FnLineBytesWrongFalsely : Prop := fnLineBytesRow.holds Try.pinned (OpenSpec.ofChange fnLineBytesWrong)

/-- 'laws.FnMultiPointValid': WHATEVER THE INPUT: true; the input reads as it did. -/
def fnMultiPointValidSpec : ChangeSpec := { name := "fnMultiPointValid", fn := fun _ => fun
  | [d1, d2] => { results := [.lit (.bool true)], args := [d1, d2] }
  | _ => none }
def fnMultiPointValidRow : OpenClaim := { program := "ytmgomieffmbmiaa", sum := "aa85942f5de872a75a8ee7c0a4e6bf60dbac27339f6f2ad7a6d8a2bca7c2065f", func := "pub-alidade/laws.FnMultiPointValid", spec := "fnMultiPointValid", inPlace := ["math.Float64bits", "math.Float64frombits"], recurses := true, apart := false }
def FnMultiPointValidSaid : Prop := fnMultiPointValidRow.holds Try.pinned (OpenSpec.ofChange fnMultiPointValidSpec)

/-- ITS FALSE NEIGHBOUR: 'it returns false'. Refute it at one input. -/
def fnMultiPointValidWrong : ChangeSpec := { name := "fnMultiPointValid", fn := fun _ => fun
  | [d1, d2] => { results := [.lit (.bool false)], args := [d1, d2] }
  | _ => none }
def FnMultiPointValidWrongFalsely : Prop := fnMultiPointValidRow.holds Try.pinned (OpenSpec.ofChange fnMultiPointValidWrong)

/-- 'laws.FnMultiPolygonForce': WHATEVER THE INPUT: true; the input reads as it did. -/
def fnMultiPolygonForceSpec : ChangeSpec := { name := "fnMultiPolygonForce", fn := fun _ => fun
  | [d1, d2] => { results := [.lit (.bool true)], args := [d1, d2] }
  | _ => none }
def fnMultiPolygonForceRow : OpenClaim := { program := "ytmgomieffmbmiaa", sum := "aa85942f5de872a75a8ee7c0a4e6bf60dbac27339f6f2ad7a6d8a2bca7c2065f", func := "pub-alidade/laws.FnMultiPolygonForce", spec := "fnMultiPolygonForce", inPlace := ["math.Float64bits"], recurses := true, loops := true, apart := false }
def FnMultiPolygonForceSaid : Prop := fnMultiPolygonForceRow.holds Try.pinned (OpenSpec.ofChange fnMultiPolygonForceSpec)

/-- ITS FALSE NEIGHBOUR: 'it returns false'. Refute it at one input. -/
def fnMultiPolygonForceWrong : ChangeSpec := { name := "fnMultiPolygonForce", fn := fun _ => fun
  | [d1, d2] => { results := [.lit (.bool false)], args := [d1, d2] }
  | _ => none }
def FnMultiPolygonForceWrongFalsely : Prop := fnMultiPolygonForceRow.holds Try.pinned (OpenSpec.ofChange fnMultiPolygonForceWrong)

/- THE SECOND FORM. 'bulk': how many values and letters a reading holds, each counted each time it is reached (what is shared counts as often as it is met; a slice's spare places count too). A statement '..UptoSaid' is the law's where the arguments, and the package variables that the reading takes, are together of bulk at most 1048576: NARROWER than '..Said'. Prove '..Said' where nothing that the law and all that it calls make is longer than what came in: it says more and counts as full. Else prove '..UptoSaid'. A law counts once. -/
mutual
def uptoBulk {H : Type} : DataW H → Nat
  | .lit (.string bytes) => bytes.length + 1
  | .lit _ => 1
  | .nil => 1
  | .ptr d => uptoBulk d + 1
  | .slice elems spare => uptoBulkAll elems + uptoBulkAll spare + 1
  | .agg parts => uptoBulkAll parts + 1
  | .iface _ d => uptoBulk d + 1
  | .map entries => uptoBulkEntries entries + 1
  | .held _ => 1
def uptoBulkAll {H : Type} : List (DataW H) → Nat
  | [] => 0
  | d :: r => uptoBulk d + uptoBulkAll r
def uptoBulkEntries {H : Type} : List (Lit × DataW H) → Nat
  | [] => 0
  | x :: r => uptoBulkEntry x + uptoBulkEntries r
def uptoBulkEntry {H : Type} : Lit × DataW H → Nat
  | (.string bytes, d) => bytes.length + uptoBulk d + 1
  | (_, d) => uptoBulk d + 1
 end
def uptoSmall : (H : Type) → List (DataW H) → Bool := fun _ ds => decide (uptoBulkAll ds ≤ 1048576)
def OpenSpec.upto (s : _root_.Go.ChangeSpec) : _root_.Go.OpenSpec := { _root_.Go.OpenSpec.ofChange s with cond := some uptoSmall }

/-- 'laws.FnEnvExpandAny', WHERE WHAT IT READS IS OF BULK AT MOST 1048576: true; the input reads as it did. -/
def fnEnvExpandAnyUptoRow : OpenClaim := { program := "ytmgomieffmbmiaa", sum := "aa85942f5de872a75a8ee7c0a4e6bf60dbac27339f6f2ad7a6d8a2bca7c2065f", func := "pub-alidade/laws.FnEnvExpandAny", spec := "fnEnvExpandAny", inPlace := ["math.Float64bits", "math.Float64frombits"], apart := false, narrowed := true }
def FnEnvExpandAnyUptoSaid : Prop := fnEnvExpandAnyUptoRow.holds Try.pinned (OpenSpec.upto fnEnvExpandAnySpec)

/-- 'laws.FnEnvKind', WHERE WHAT IT READS IS OF BULK AT MOST 1048576: true; the input reads as it did. -/
def fnEnvKindUptoRow : OpenClaim := { program := "ytmgomieffmbmiaa", sum := "aa85942f5de872a75a8ee7c0a4e6bf60dbac27339f6f2ad7a6d8a2bca7c2065f", func := "pub-alidade/laws.FnEnvKind", spec := "fnEnvKind", inPlace := ["math.Float64bits", "math.Float64frombits"], apart := false, narrowed := true }
def FnEnvKindUptoSaid : Prop := fnEnvKindUptoRow.holds Try.pinned (OpenSpec.upto fnEnvKindSpec)

/-- 'laws.FnSegmentDistanceEnds', WHERE WHAT IT READS IS OF BULK AT MOST 1048576: true; the input reads as it did. -/
def fnSegmentDistanceEndsUptoRow : OpenClaim := { program := "ytmgomieffmbmiaa", sum := "aa85942f5de872a75a8ee7c0a4e6bf60dbac27339f6f2ad7a6d8a2bca7c2065f", func := "pub-alidade/laws.FnSegmentDistanceEnds", spec := "fnSegmentDistanceEnds", inPlace := ["math.sqrt"], recurses := true, apart := false, narrowed := true }
def FnSegmentDistanceEndsUptoSaid : Prop := fnSegmentDistanceEndsUptoRow.holds Try.pinned (OpenSpec.upto fnSegmentDistanceEndsSpec)

/-- 'laws.FnLineBytes', WHERE WHAT IT READS IS OF BULK AT MOST 1048576: true; the input reads as it did. -/
def fnLineBytesUptoRow : OpenClaim := { program := "ytmgomieffmbmiaa", sum := "aa85942f5de872a75a8ee7c0a4e6bf60dbac27339f6f2ad7a6d8a2bca7c2065f", func := "pub-alidade/laws.FnLineBytes", spec := "fnLineBytes", inPlace := ["math.Float64bits", "math.Float64frombits"], unfollowed := true, recurses := true, named := ["encoding/binary.LittleEndian"], loops := true, apart := false, narrowed := true }
def FnLineBytesUptoSaid : Prop := fnLineBytesUptoRow.holds Try.pinned (OpenSpec.upto fnLineBytesSpec)

/-- 'laws.FnMultiPointValid', WHERE WHAT IT READS IS OF BULK AT MOST 1048576: true; the input reads as it did. -/
def fnMultiPointValidUptoRow : OpenClaim := { program := "ytmgomieffmbmiaa", sum := "aa85942f5de872a75a8ee7c0a4e6bf60dbac27339f6f2ad7a6d8a2bca7c2065f", func := "pub-alidade/laws.FnMultiPointValid", spec := "fnMultiPointValid", inPlace := ["math.Float64bits", "math.Float64frombits"], recurses := true, apart := false, narrowed := true }
def FnMultiPointValidUptoSaid : Prop := fnMultiPointValidUptoRow.holds Try.pinned (OpenSpec.upto fnMultiPointValidSpec)

/-- 'laws.FnMultiPolygonForce', WHERE WHAT IT READS IS OF BULK AT MOST 1048576: true; the input reads as it did. -/
def fnMultiPolygonForceUptoRow : OpenClaim := { program := "ytmgomieffmbmiaa", sum := "aa85942f5de872a75a8ee7c0a4e6bf60dbac27339f6f2ad7a6d8a2bca7c2065f", func := "pub-alidade/laws.FnMultiPolygonForce", spec := "fnMultiPolygonForce", inPlace := ["math.Float64bits"], recurses := true, loops := true, apart := false, narrowed := true }
def FnMultiPolygonForceUptoSaid : Prop := fnMultiPolygonForceUptoRow.holds Try.pinned (OpenSpec.upto fnMultiPolygonForceSpec)

end Rows
end Go.Proofs.Ytmgomieffmbmiaa
