/-
  NARROWER THAN 'FOR EVERY INPUT', by the rows' own cells (each row's printed sentence says how): FnFirstLast: loops · FnSeqSliceTwice: loops · FnMultiLineReverse: loops · FnMultiLineBytes: loops · FnMultiPolygonEnvelope: loops.
  DERIVED. THE GIVEN ROWS OF THIS SEAT. 6 by the template 'for every input the law returns true; each argument reads behind the call as it read before'; 0 by the template 'total and deterministic' (their statements: YtpbllagjcdcnpaaTotals.lean).
  GIVEN WITH THE SEED: the statements are not yours to turn. If you find one false, say at which input.
  Laid BY PROGRAM, IN A SANDBOX (cutbox-rows.mjs): the forced cells as the released guide's own fill.sh prints them over the translation 468549d8e6d8dc2d… (all of the seat's roots in one cut). By AI agents, Wed Nov 11 2026. No macro, syntax, notation, axiom, sorry.
-/
import Derived.Test.YtpbllagjcdcnpaaChecked
import GoSem.Claim
import GoSem.ClaimJoined
import GoSem.ClaimMapViews
import Derived.JoinedTies
import Derived.KernelRfl
namespace Go.Proofs.Ytpbllagjcdcnpaa
/- THE CELL 'sum', in the pinned program and in every row, IS THE sha256 OF THE DUMP (.gsa) THAT YtpbllagjcdcnpaaProg.lean LOADS. Nothing in Lean hashes anything: it is a label: what it is worth is what the hold of that sum in a sandbox is worth. -/
noncomputable def Try.pinned : Pinned := { name := "ytpbllagjcdcnpaa", sum := "468549d8e6d8dc2d30fd106f9fdd01fd48a841d58309a1b5bc55d9d582e96399", checked := Try.checked }
namespace Rows
def none {H : Type} : Left H := { results := [], args := [] }

/-- 'laws.FnFirstLast': WHATEVER THE INPUT: true; the input reads as it did. -/
def fnFirstLastSpec : ChangeSpec := { name := "fnFirstLast", fn := fun _ => fun
  | [d] => { results := [.lit (.bool true)], args := [d] }
  | _ => none }
def fnFirstLastRow : OpenClaim := { program := "ytpbllagjcdcnpaa", sum := "468549d8e6d8dc2d30fd106f9fdd01fd48a841d58309a1b5bc55d9d582e96399", func := "pub-alidade/laws.FnFirstLast", spec := "fnFirstLast", inPlace := ["math.Float64bits", "math.Float64frombits"], unfollowed := true, recurses := true, loops := true, apart := false }
def FnFirstLastSaid : Prop := fnFirstLastRow.holds Try.pinned (OpenSpec.ofChange fnFirstLastSpec)

/-- ITS FALSE NEIGHBOUR: 'it returns false'. Refute it at one input. -/
def fnFirstLastWrong : ChangeSpec := { name := "fnFirstLast", fn := fun _ => fun
  | [d] => { results := [.lit (.bool false)], args := [d] }
  | _ => none }
def FnFirstLastWrongFalsely : Prop := fnFirstLastRow.holds Try.pinned (OpenSpec.ofChange fnFirstLastWrong)

/-- 'laws.FnSeqSliceTwice': WHATEVER THE INPUT: true; the input reads as it did. -/
def fnSeqSliceTwiceSpec : ChangeSpec := { name := "fnSeqSliceTwice", fn := fun _ => fun
  | [d1, d2, d3, d4, d5] => { results := [.lit (.bool true)], args := [d1, d2, d3, d4, d5] }
  | _ => none }
def fnSeqSliceTwiceRow : OpenClaim := { program := "ytpbllagjcdcnpaa", sum := "468549d8e6d8dc2d30fd106f9fdd01fd48a841d58309a1b5bc55d9d582e96399", func := "pub-alidade/laws.FnSeqSliceTwice", spec := "fnSeqSliceTwice", inPlace := ["math.Float64bits"], unfollowed := true, recurses := true, loops := true, apart := false }
def FnSeqSliceTwiceSaid : Prop := fnSeqSliceTwiceRow.holds Try.pinned (OpenSpec.ofChange fnSeqSliceTwiceSpec)

/-- ITS FALSE NEIGHBOUR: 'it returns false'. Refute it at one input. -/
def fnSeqSliceTwiceWrong : ChangeSpec := { name := "fnSeqSliceTwice", fn := fun _ => fun
  | [d1, d2, d3, d4, d5] => { results := [.lit (.bool false)], args := [d1, d2, d3, d4, d5] }
  | _ => none }
def FnSeqSliceTwiceWrongFalsely : Prop := fnSeqSliceTwiceRow.holds Try.pinned (OpenSpec.ofChange fnSeqSliceTwiceWrong)

/-- 'laws.FnReadPointBytes': WHATEVER THE INPUT: true; the input reads as it did. -/
def fnReadPointBytesSpec : ChangeSpec := { name := "fnReadPointBytes", fn := fun _ => fun
  | [d1, d2, d3] => { results := [.lit (.bool true)], args := [d1, d2, d3] }
  | _ => none }
def fnReadPointBytesRow : OpenClaim := { program := "ytpbllagjcdcnpaa", sum := "468549d8e6d8dc2d30fd106f9fdd01fd48a841d58309a1b5bc55d9d582e96399", func := "pub-alidade/laws.FnReadPointBytes", spec := "fnReadPointBytes", inPlace := ["math.Float64frombits", "math.Float64bits"], unfollowed := true, recurses := true, named := ["encoding/binary.BigEndian", "encoding/binary.LittleEndian"], apart := false }
def FnReadPointBytesSaid : Prop := fnReadPointBytesRow.holds Try.pinned (OpenSpec.ofChange fnReadPointBytesSpec)

/-- ITS FALSE NEIGHBOUR: 'it returns false'. Refute it at one input. -/
def fnReadPointBytesWrong : ChangeSpec := { name := "fnReadPointBytes", fn := fun _ => fun
  | [d1, d2, d3] => { results := [.lit (.bool false)], args := [d1, d2, d3] }
  | _ => none }
def FnReadPointBytesWrongFalsely : Prop := fnReadPointBytesRow.holds Try.pinned (OpenSpec.ofChange fnReadPointBytesWrong)

/-- 'laws.FnMultiLineReverse': WHATEVER THE INPUT: true; the input reads as it did. -/
def fnMultiLineReverseSpec : ChangeSpec := { name := "fnMultiLineReverse", fn := fun _ => fun
  | [d] => { results := [.lit (.bool true)], args := [d] }
  | _ => none }
def fnMultiLineReverseRow : OpenClaim := { program := "ytpbllagjcdcnpaa", sum := "468549d8e6d8dc2d30fd106f9fdd01fd48a841d58309a1b5bc55d9d582e96399", func := "pub-alidade/laws.FnMultiLineReverse", spec := "fnMultiLineReverse", inPlace := ["math.Float64bits"], recurses := true, loops := true, apart := false }
def FnMultiLineReverseSaid : Prop := fnMultiLineReverseRow.holds Try.pinned (OpenSpec.ofChange fnMultiLineReverseSpec)

/-- ITS FALSE NEIGHBOUR: 'it returns false'. Refute it at one input. -/
def fnMultiLineReverseWrong : ChangeSpec := { name := "fnMultiLineReverse", fn := fun _ => fun
  | [d] => { results := [.lit (.bool false)], args := [d] }
  | _ => none }
def FnMultiLineReverseWrongFalsely : Prop := fnMultiLineReverseRow.holds Try.pinned (OpenSpec.ofChange fnMultiLineReverseWrong)

/-- 'laws.FnMultiLineBytes': WHATEVER THE INPUT: true; the input reads as it did. -/
def fnMultiLineBytesSpec : ChangeSpec := { name := "fnMultiLineBytes", fn := fun _ => fun
  | [d] => { results := [.lit (.bool true)], args := [d] }
  | _ => none }
def fnMultiLineBytesRow : OpenClaim := { program := "ytpbllagjcdcnpaa", sum := "468549d8e6d8dc2d30fd106f9fdd01fd48a841d58309a1b5bc55d9d582e96399", func := "pub-alidade/laws.FnMultiLineBytes", spec := "fnMultiLineBytes", inPlace := ["math.Float64bits", "math.Float64frombits"], unfollowed := true, recurses := true, named := ["encoding/binary.LittleEndian"], loops := true, apart := false }
def FnMultiLineBytesSaid : Prop := fnMultiLineBytesRow.holds Try.pinned (OpenSpec.ofChange fnMultiLineBytesSpec)

/-- ITS FALSE NEIGHBOUR: 'it returns false'. Refute it at one input. -/
def fnMultiLineBytesWrong : ChangeSpec := { name := "fnMultiLineBytes", fn := fun _ => fun
  | [d] => { results := [.lit (.bool false)], args := [d] }
  | _ => none }
def FnMultiLineBytesWrongFalsely : Prop := fnMultiLineBytesRow.holds Try.pinned (OpenSpec.ofChange fnMultiLineBytesWrong)

/-- 'laws.FnMultiPolygonEnvelope': WHATEVER THE INPUT: true; the input reads as it did. -/
def fnMultiPolygonEnvelopeSpec : ChangeSpec := { name := "fnMultiPolygonEnvelope", fn := fun _ => fun
  | [d] => { results := [.lit (.bool true)], args := [d] }
  | _ => none }
def fnMultiPolygonEnvelopeRow : OpenClaim := { program := "ytpbllagjcdcnpaa", sum := "468549d8e6d8dc2d30fd106f9fdd01fd48a841d58309a1b5bc55d9d582e96399", func := "pub-alidade/laws.FnMultiPolygonEnvelope", spec := "fnMultiPolygonEnvelope", inPlace := ["math.Float64bits", "math.Float64frombits"], unfollowed := true, recurses := true, loops := true, apart := false }
def FnMultiPolygonEnvelopeSaid : Prop := fnMultiPolygonEnvelopeRow.holds Try.pinned (OpenSpec.ofChange fnMultiPolygonEnvelopeSpec)

/-- ITS FALSE NEIGHBOUR: 'it returns false'. Refute it at one input. -/
def fnMultiPolygonEnvelopeWrong : ChangeSpec := { name := "fnMultiPolygonEnvelope", fn := fun _ => fun
  | [d] => { results := [.lit (.bool false)], args := [d] }
  | _ => none }
def FnMultiPolygonEnvelopeWrongFalsely : Prop := fnMultiPolygonEnvelopeRow.holds Try.pinned (OpenSpec.ofChange fnMultiPolygonEnvelopeWrong)

/- THE SECOND FORM. 'bulk': how many values and letters a reading holds, each counted each time it is reached (what is shared counts as often as it is met; a slice's spare places count too). A statement '..UptoSaid' is the law's where the arguments, and the package variables that the reading takes, are together of bulk at most 1048576: NARROWER than '..Said'. Prove '..Said' where nothing that the law and all that it calls make is longer than what came in: it says more and counts as full. Else prove '..UptoSaid'. A law counts once. -/
mutual
def uptoBulk {H : Type} : DataW H → Nat
  | .lit (.string bytes) => bytes.length + 1
  | .lit _ => 1
  | .nil => 1
  | .ptr d => uptoBulk d + 1
  | .slice elems spare => uptoBulkAll elems + uptoBulkAll spare + 1
  | .agg parts => uptoBulkAll parts + 1
  | .iface _ d => uptoBulk d + 1
  | .map entries => uptoBulkEntries entries + 1
  | .held _ => 1
def uptoBulkAll {H : Type} : List (DataW H) → Nat
  | [] => 0
  | d :: r => uptoBulk d + uptoBulkAll r
def uptoBulkEntries {H : Type} : List (Lit × DataW H) → Nat
  | [] => 0
  | x :: r => uptoBulkEntry x + uptoBulkEntries r
def uptoBulkEntry {H : Type} : Lit × DataW H → Nat
  | (.string bytes, d) => bytes.length + uptoBulk d + 1
  | (_, d) => uptoBulk d + 1
 end
def uptoSmall : (H : Type) → List (DataW H) → Bool := fun _ ds => decide (uptoBulkAll ds ≤ 1048576)
def OpenSpec.upto (s : _root_.Go.ChangeSpec) : _root_.Go.OpenSpec := { _root_.Go.OpenSpec.ofChange s with cond := some uptoSmall }

/-- 'laws.FnFirstLast', WHERE WHAT IT READS IS OF BULK AT MOST 1048576: true; the input reads as it did. -/
def fnFirstLastUptoRow : OpenClaim := { program := "ytpbllagjcdcnpaa", sum := "468549d8e6d8dc2d30fd106f9fdd01fd48a841d58309a1b5bc55d9d582e96399", func := "pub-alidade/laws.FnFirstLast", spec := "fnFirstLast", inPlace := ["math.Float64bits", "math.Float64frombits"], unfollowed := true, recurses := true, loops := true, apart := false, narrowed := true }
def FnFirstLastUptoSaid : Prop := fnFirstLastUptoRow.holds Try.pinned (OpenSpec.upto fnFirstLastSpec)

/-- 'laws.FnSeqSliceTwice', WHERE WHAT IT READS IS OF BULK AT MOST 1048576: true; the input reads as it did. -/
def fnSeqSliceTwiceUptoRow : OpenClaim := { program := "ytpbllagjcdcnpaa", sum := "468549d8e6d8dc2d30fd106f9fdd01fd48a841d58309a1b5bc55d9d582e96399", func := "pub-alidade/laws.FnSeqSliceTwice", spec := "fnSeqSliceTwice", inPlace := ["math.Float64bits"], unfollowed := true, recurses := true, loops := true, apart := false, narrowed := true }
def FnSeqSliceTwiceUptoSaid : Prop := fnSeqSliceTwiceUptoRow.holds Try.pinned (OpenSpec.upto fnSeqSliceTwiceSpec)

/-- 'laws.FnReadPointBytes', WHERE WHAT IT READS IS OF BULK AT MOST 1048576: true; the input reads as it did. -/
def fnReadPointBytesUptoRow : OpenClaim := { program := "ytpbllagjcdcnpaa", sum := "468549d8e6d8dc2d30fd106f9fdd01fd48a841d58309a1b5bc55d9d582e96399", func := "pub-alidade/laws.FnReadPointBytes", spec := "fnReadPointBytes", inPlace := ["math.Float64frombits", "math.Float64bits"], unfollowed := true, recurses := true, named := ["encoding/binary.BigEndian", "encoding/binary.LittleEndian"], apart := false, narrowed := true }
def FnReadPointBytesUptoSaid : Prop := fnReadPointBytesUptoRow.holds Try.pinned (OpenSpec.upto fnReadPointBytesSpec)

/-- 'laws.FnMultiLineReverse', WHERE WHAT IT READS IS OF BULK AT MOST 1048576: true; the input reads as it did. -/
def fnMultiLineReverseUptoRow : OpenClaim := { program := "ytpbllagjcdcnpaa", sum := "468549d8e6d8dc2d30fd106f9fdd01fd48a841d58309a1b5bc55d9d582e96399", func := "pub-alidade/laws.FnMultiLineReverse", spec := "fnMultiLineReverse", inPlace := ["math.Float64bits"], recurses := true, loops := true, apart := false, narrowed := true }
def FnMultiLineReverseUptoSaid : Prop := fnMultiLineReverseUptoRow.holds Try.pinned (OpenSpec.upto fnMultiLineReverseSpec)

/-- 'laws.FnMultiLineBytes', WHERE WHAT IT READS IS OF BULK AT MOST 1048576: true; the input reads as it did. -/
def fnMultiLineBytesUptoRow : OpenClaim := { program := "ytpbllagjcdcnpaa", sum := "468549d8e6d8dc2d30fd106f9fdd01fd48a841d58309a1b5bc55d9d582e96399", func := "pub-alidade/laws.FnMultiLineBytes", spec := "fnMultiLineBytes", inPlace := ["math.Float64bits", "math.Float64frombits"], unfollowed := true, recurses := true, named := ["encoding/binary.LittleEndian"], loops := true, apart := false, narrowed := true }
def FnMultiLineBytesUptoSaid : Prop := fnMultiLineBytesUptoRow.holds Try.pinned (OpenSpec.upto fnMultiLineBytesSpec)

/-- 'laws.FnMultiPolygonEnvelope', WHERE WHAT IT READS IS OF BULK AT MOST 1048576: true; the input reads as it did. -/
def fnMultiPolygonEnvelopeUptoRow : OpenClaim := { program := "ytpbllagjcdcnpaa", sum := "468549d8e6d8dc2d30fd106f9fdd01fd48a841d58309a1b5bc55d9d582e96399", func := "pub-alidade/laws.FnMultiPolygonEnvelope", spec := "fnMultiPolygonEnvelope", inPlace := ["math.Float64bits", "math.Float64frombits"], unfollowed := true, recurses := true, loops := true, apart := false, narrowed := true }
def FnMultiPolygonEnvelopeUptoSaid : Prop := fnMultiPolygonEnvelopeUptoRow.holds Try.pinned (OpenSpec.upto fnMultiPolygonEnvelopeSpec)

end Rows
end Go.Proofs.Ytpbllagjcdcnpaa
