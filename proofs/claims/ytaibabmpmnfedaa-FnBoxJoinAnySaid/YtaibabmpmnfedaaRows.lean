/-
  No cell of these rows narrows 'for every input' (looked for: loops, veiled, ifaces, maps, wideKeys, modest, calm, conditions, laid).
  DERIVED. THE GIVEN ROWS OF THIS SEAT. 4 by the template 'for every input the law returns true; each argument reads behind the call as it read before'; 0 by the template 'total and deterministic' (their statements: YtaibabmpmnfedaaTotals.lean).
  GIVEN WITH THE SEED: the statements are not yours to turn. If you find one false, say at which input.
  Laid BY PROGRAM, IN A SANDBOX (cutbox-rows.mjs): the forced cells as the released guide's own fill.sh prints them over the translation d77e8b8117a2da01… (all of the seat's roots in one cut). By AI agents, Wed Nov 11 2026. No macro, syntax, notation, axiom, sorry.
-/
import Derived.Test.YtaibabmpmnfedaaChecked
import GoSem.Claim
import GoSem.ClaimJoined
import GoSem.ClaimMapViews
import Derived.JoinedTies
import Derived.KernelRfl
namespace Go.Proofs.Ytaibabmpmnfedaa
/- THE CELL 'sum', in the pinned program and in every row, IS THE sha256 OF THE DUMP (.gsa) THAT YtaibabmpmnfedaaProg.lean LOADS. Nothing in Lean hashes anything: it is a label: what it is worth is what the hold of that sum in a sandbox is worth. -/
noncomputable def Try.pinned : Pinned := { name := "ytaibabmpmnfedaa", sum := "d77e8b8117a2da0197d7cfbf7f9bacb442b7ff844ab3420a2cb012500243e46b", checked := Try.checked }
namespace Rows
def none {H : Type} : Left H := { results := [], args := [] }

/-- 'laws.FnTypeDimension': WHATEVER THE INPUT: true; the input reads as it did. -/
def fnTypeDimensionSpec : ChangeSpec := { name := "fnTypeDimension", fn := fun _ => fun
  | [d] => { results := [.lit (.bool true)], args := [d] }
  | _ => none }
def fnTypeDimensionRow : OpenClaim := { program := "ytaibabmpmnfedaa", sum := "d77e8b8117a2da0197d7cfbf7f9bacb442b7ff844ab3420a2cb012500243e46b", func := "pub-alidade/laws.FnTypeDimension", spec := "fnTypeDimension", apart := false }
def FnTypeDimensionSaid : Prop := fnTypeDimensionRow.holds Try.pinned (OpenSpec.ofChange fnTypeDimensionSpec)

/-- ITS FALSE NEIGHBOUR: 'it returns false'. Refute it at one input. -/
def fnTypeDimensionWrong : ChangeSpec := { name := "fnTypeDimension", fn := fun _ => fun
  | [d] => { results := [.lit (.bool false)], args := [d] }
  | _ => none }
def FnTypeDimensionWrongFalsely : Prop := fnTypeDimensionRow.holds Try.pinned (OpenSpec.ofChange fnTypeDimensionWrong)

/-- 'laws.FnXYCross': WHATEVER THE INPUT: true; the input reads as it did. -/
def fnXYCrossSpec : ChangeSpec := { name := "fnXYCross", fn := fun _ => fun
  | [d1, d2] => { results := [.lit (.bool true)], args := [d1, d2] }
  | _ => none }
def fnXYCrossRow : OpenClaim := { program := "ytaibabmpmnfedaa", sum := "d77e8b8117a2da0197d7cfbf7f9bacb442b7ff844ab3420a2cb012500243e46b", func := "pub-alidade/laws.FnXYCross", spec := "fnXYCross", inPlace := ["math.archTrunc", "math.Float64bits", "math.Float64frombits"], apart := false }
def FnXYCrossSaid : Prop := fnXYCrossRow.holds Try.pinned (OpenSpec.ofChange fnXYCrossSpec)

/-- ITS FALSE NEIGHBOUR: 'it returns false'. Refute it at one input. -/
def fnXYCrossWrong : ChangeSpec := { name := "fnXYCross", fn := fun _ => fun
  | [d1, d2] => { results := [.lit (.bool false)], args := [d1, d2] }
  | _ => none }
def FnXYCrossWrongFalsely : Prop := fnXYCrossRow.holds Try.pinned (OpenSpec.ofChange fnXYCrossWrong)

/-- 'laws.FnBoxJoinAny': WHATEVER THE INPUT: true; the input reads as it did. -/
def fnBoxJoinAnySpec : ChangeSpec := { name := "fnBoxJoinAny", fn := fun _ => fun
  | [d1, d2, d3] => { results := [.lit (.bool true)], args := [d1, d2, d3] }
  | _ => none }
def fnBoxJoinAnyRow : OpenClaim := { program := "ytaibabmpmnfedaa", sum := "d77e8b8117a2da0197d7cfbf7f9bacb442b7ff844ab3420a2cb012500243e46b", func := "pub-alidade/laws.FnBoxJoinAny", spec := "fnBoxJoinAny", inPlace := ["math.Float64bits", "math.Float64frombits"], apart := false }
def FnBoxJoinAnySaid : Prop := fnBoxJoinAnyRow.holds Try.pinned (OpenSpec.ofChange fnBoxJoinAnySpec)

/-- ITS FALSE NEIGHBOUR: 'it returns false'. Refute it at one input. -/
def fnBoxJoinAnyWrong : ChangeSpec := { name := "fnBoxJoinAny", fn := fun _ => fun
  | [d1, d2, d3] => { results := [.lit (.bool false)], args := [d1, d2, d3] }
  | _ => none }
def FnBoxJoinAnyWrongFalsely : Prop := fnBoxJoinAnyRow.holds Try.pinned (OpenSpec.ofChange fnBoxJoinAnyWrong)

/-- 'laws.FnHasCycle': WHATEVER THE INPUT: true; the input reads as it did. -/
def fnHasCycleSpec : ChangeSpec := { name := "fnHasCycle", fn := fun _ => fun
  | [d] => { results := [.lit (.bool true)], args := [d] }
  | _ => none }
def fnHasCycleRow : OpenClaim := { program := "ytaibabmpmnfedaa", sum := "d77e8b8117a2da0197d7cfbf7f9bacb442b7ff844ab3420a2cb012500243e46b", func := "pub-alidade/laws.FnHasCycle", spec := "fnHasCycle", unfollowed := true, recurses := true, apart := false }
def FnHasCycleSaid : Prop := fnHasCycleRow.holds Try.pinned (OpenSpec.ofChange fnHasCycleSpec)

/-- ITS FALSE NEIGHBOUR: 'it returns false'. Refute it at one input. -/
def fnHasCycleWrong : ChangeSpec := { name := "fnHasCycle", fn := fun _ => fun
  | [d] => { results := [.lit (.bool false)], args := [d] }
  | _ => none }
def FnHasCycleWrongFalsely : Prop := fnHasCycleRow.holds Try.pinned (OpenSpec.ofChange fnHasCycleWrong)

/- THE SECOND FORM. 'bulk': how many values and letters a reading holds, each counted each time it is reached (what is shared counts as often as it is met; a slice's spare places count too). A statement '..UptoSaid' is the law's where the arguments, and the package variables that the reading takes, are together of bulk at most 1048576: NARROWER than '..Said'. Prove '..Said' where nothing that the law and all that it calls make is longer than what came in: it says more and counts as full. Else prove '..UptoSaid'. A law counts once. -/
mutual
def uptoBulk {H : Type} : DataW H → Nat
  | .lit (.string bytes) => bytes.length + 1
  | .lit _ => 1
  | .nil => 1
  | .ptr d => uptoBulk d + 1
  | .slice elems spare => uptoBulkAll elems + uptoBulkAll spare + 1
  | .agg parts => uptoBulkAll parts + 1
  | .iface _ d => uptoBulk d + 1
  | .map entries => uptoBulkEntries entries + 1
  | .held _ => 1
def uptoBulkAll {H : Type} : List (DataW H) → Nat
  | [] => 0
  | d :: r => uptoBulk d + uptoBulkAll r
def uptoBulkEntries {H : Type} : List (Lit × DataW H) → Nat
  | [] => 0
  | x :: r => uptoBulkEntry x + uptoBulkEntries r
def uptoBulkEntry {H : Type} : Lit × DataW H → Nat
  | (.string bytes, d) => bytes.length + uptoBulk d + 1
  | (_, d) => uptoBulk d + 1
 end
def uptoSmall : (H : Type) → List (DataW H) → Bool := fun _ ds => decide (uptoBulkAll ds ≤ 1048576)
def OpenSpec.upto (s : _root_.Go.ChangeSpec) : _root_.Go.OpenSpec := { _root_.Go.OpenSpec.ofChange s with cond := some uptoSmall }

/-- 'laws.FnTypeDimension', WHERE WHAT IT READS IS OF BULK AT MOST 1048576: true; the input reads as it did. -/
def fnTypeDimensionUptoRow : OpenClaim := { program := "ytaibabmpmnfedaa", sum := "d77e8b8117a2da0197d7cfbf7f9bacb442b7ff844ab3420a2cb012500243e46b", func := "pub-alidade/laws.FnTypeDimension", spec := "fnTypeDimension", apart := false, narrowed := true }
def FnTypeDimensionUptoSaid : Prop := fnTypeDimensionUptoRow.holds Try.pinned (OpenSpec.upto fnTypeDimensionSpec)

/-- 'laws.FnXYCross', WHERE WHAT IT READS IS OF BULK AT MOST 1048576: true; the input reads as it did. -/
def fnXYCrossUptoRow : OpenClaim := { program := "ytaibabmpmnfedaa", sum := "d77e8b8117a2da0197d7cfbf7f9bacb442b7ff844ab3420a2cb012500243e46b", func := "pub-alidade/laws.FnXYCross", spec := "fnXYCross", inPlace := ["math.archTrunc", "math.Float64bits", "math.Float64frombits"], apart := false, narrowed := true }
def FnXYCrossUptoSaid : Prop := fnXYCrossUptoRow.holds Try.pinned (OpenSpec.upto fnXYCrossSpec)

/-- 'laws.FnBoxJoinAny', WHERE WHAT IT READS IS OF BULK AT MOST 1048576: true; the input reads as it did. -/
def fnBoxJoinAnyUptoRow : OpenClaim := { program := "ytaibabmpmnfedaa", sum := "d77e8b8117a2da0197d7cfbf7f9bacb442b7ff844ab3420a2cb012500243e46b", func := "pub-alidade/laws.FnBoxJoinAny", spec := "fnBoxJoinAny", inPlace := ["math.Float64bits", "math.Float64frombits"], apart := false, narrowed := true }
def FnBoxJoinAnyUptoSaid : Prop := fnBoxJoinAnyUptoRow.holds Try.pinned (OpenSpec.upto fnBoxJoinAnySpec)

/-- 'laws.FnHasCycle', WHERE WHAT IT READS IS OF BULK AT MOST 1048576: true; the input reads as it did. -/
def fnHasCycleUptoRow : OpenClaim := { program := "ytaibabmpmnfedaa", sum := "d77e8b8117a2da0197d7cfbf7f9bacb442b7ff844ab3420a2cb012500243e46b", func := "pub-alidade/laws.FnHasCycle", spec := "fnHasCycle", unfollowed := true, recurses := true, apart := false, narrowed := true }
def FnHasCycleUptoSaid : Prop := fnHasCycleUptoRow.holds Try.pinned (OpenSpec.upto fnHasCycleSpec)

end Rows
end Go.Proofs.Ytaibabmpmnfedaa
