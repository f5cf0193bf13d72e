/-
  No cell of these rows narrows 'for every input' (looked for: loops, veiled, ifaces, maps, wideKeys, modest, calm, conditions, laid).
  DERIVED. THE GIVEN ROWS OF THIS SEAT. 3 by the template 'for every input the law returns true; each argument reads behind the call as it read before'; 0 by the template 'total and deterministic' (their statements: YtcidgicdeedgfaaTotals.lean).
  GIVEN WITH THE SEED: the statements are not yours to turn. If you find one false, say at which input.
  Laid BY PROGRAM, IN A SANDBOX (cutbox-rows.mjs): the forced cells as the released guide's own fill.sh prints them over the translation 5bfe7c69988644bc… (all of the seat's roots in one cut). By AI agents, Wed Nov 11 2026. No macro, syntax, notation, axiom, sorry.
-/
import Derived.Test.YtcidgicdeedgfaaChecked
import GoSem.Claim
import GoSem.ClaimJoined
import GoSem.ClaimMapViews
import Derived.JoinedTies
import Derived.KernelRfl
namespace Go.Proofs.Ytcidgicdeedgfaa
/- THE CELL 'sum', in the pinned program and in every row, IS THE sha256 OF THE DUMP (.gsa) THAT YtcidgicdeedgfaaProg.lean LOADS. Nothing in Lean hashes anything: it is a label: what it is worth is what the hold of that sum in a sandbox is worth. -/
noncomputable def Try.pinned : Pinned := { name := "ytcidgicdeedgfaa", sum := "5bfe7c69988644bc7480d7ffb1a08b764ae42d1ad3d109d2fc980d0a2ea12970", checked := Try.checked }
namespace Rows
def none {H : Type} : Left H := { results := [], args := [] }

/-- 'laws.FnLerpEnds': WHATEVER THE INPUT: true; the input reads as it did. -/
def fnLerpEndsSpec : ChangeSpec := { name := "fnLerpEnds", fn := fun _ => fun
  | [d1, d2] => { results := [.lit (.bool true)], args := [d1, d2] }
  | _ => none }
def fnLerpEndsRow : OpenClaim := { program := "ytcidgicdeedgfaa", sum := "5bfe7c69988644bc7480d7ffb1a08b764ae42d1ad3d109d2fc980d0a2ea12970", func := "pub-alidade/laws.FnLerpEnds", spec := "fnLerpEnds", inPlace := ["math.Float64bits", "math.Float64frombits", "math.archMax", "math.archMin"], plainKeys := false, apart := false }
def FnLerpEndsSaid : Prop := fnLerpEndsRow.holds Try.pinned (OpenSpec.ofChange fnLerpEndsSpec)

/-- ITS FALSE NEIGHBOUR: 'it returns false'. Refute it at one input. -/
def fnLerpEndsWrong : ChangeSpec := { name := "fnLerpEnds", fn := fun _ => fun
  | [d1, d2] => { results := [.lit (.bool false)], args := [d1, d2] }
  | _ => none }
def FnLerpEndsWrongFalsely : Prop := fnLerpEndsRow.holds Try.pinned (OpenSpec.ofChange fnLerpEndsWrong)

/-- 'laws.FnEnvCoversAll': WHATEVER THE INPUT: true; the input reads as it did. -/
def fnEnvCoversAllSpec : ChangeSpec := { name := "fnEnvCoversAll", fn := fun _ => fun
  | [d1, d2, d3] => { results := [.lit (.bool true)], args := [d1, d2, d3] }
  | _ => none }
def fnEnvCoversAllRow : OpenClaim := { program := "ytcidgicdeedgfaa", sum := "5bfe7c69988644bc7480d7ffb1a08b764ae42d1ad3d109d2fc980d0a2ea12970", func := "pub-alidade/laws.FnEnvCoversAll", spec := "fnEnvCoversAll", inPlace := ["math.Float64bits", "math.Float64frombits"], plainKeys := false, apart := false }
def FnEnvCoversAllSaid : Prop := fnEnvCoversAllRow.holds Try.pinned (OpenSpec.ofChange fnEnvCoversAllSpec)

/-- ITS FALSE NEIGHBOUR: 'it returns false'. Refute it at one input. -/
def fnEnvCoversAllWrong : ChangeSpec := { name := "fnEnvCoversAll", fn := fun _ => fun
  | [d1, d2, d3] => { results := [.lit (.bool false)], args := [d1, d2, d3] }
  | _ => none }
def FnEnvCoversAllWrongFalsely : Prop := fnEnvCoversAllRow.holds Try.pinned (OpenSpec.ofChange fnEnvCoversAllWrong)

/-- 'laws.FnNodesOwn': WHATEVER THE INPUT: true; the input reads as it did. -/
def fnNodesOwnSpec : ChangeSpec := { name := "fnNodesOwn", fn := fun _ => fun
  | [d1, d2] => { results := [.lit (.bool true)], args := [d1, d2] }
  | _ => none }
def fnNodesOwnRow : OpenClaim := { program := "ytcidgicdeedgfaa", sum := "5bfe7c69988644bc7480d7ffb1a08b764ae42d1ad3d109d2fc980d0a2ea12970", func := "pub-alidade/laws.FnNodesOwn", spec := "fnNodesOwn", inPlace := ["math.archFloor", "math.Float64bits", "math.Float64frombits", "math.archTrunc"], plainKeys := false, apart := false }
def FnNodesOwnSaid : Prop := fnNodesOwnRow.holds Try.pinned (OpenSpec.ofChange fnNodesOwnSpec)

/-- ITS FALSE NEIGHBOUR: 'it returns false'. Refute it at one input. -/
def fnNodesOwnWrong : ChangeSpec := { name := "fnNodesOwn", fn := fun _ => fun
  | [d1, d2] => { results := [.lit (.bool false)], args := [d1, d2] }
  | _ => none }
def FnNodesOwnWrongFalsely : Prop := fnNodesOwnRow.holds Try.pinned (OpenSpec.ofChange fnNodesOwnWrong)

/- THE SECOND FORM. 'bulk': how many values and letters a reading holds, each counted each time it is reached (what is shared counts as often as it is met; a slice's spare places count too). A statement '..UptoSaid' is the law's where the arguments, and the package variables that the reading takes, are together of bulk at most 1048576: NARROWER than '..Said'. Prove '..Said' where nothing that the law and all that it calls make is longer than what came in: it says more and counts as full. Else prove '..UptoSaid'. A law counts once. -/
mutual
def uptoBulk {H : Type} : DataW H → Nat
  | .lit (.string bytes) => bytes.length + 1
  | .lit _ => 1
  | .nil => 1
  | .ptr d => uptoBulk d + 1
  | .slice elems spare => uptoBulkAll elems + uptoBulkAll spare + 1
  | .agg parts => uptoBulkAll parts + 1
  | .iface _ d => uptoBulk d + 1
  | .map entries => uptoBulkEntries entries + 1
  | .held _ => 1
def uptoBulkAll {H : Type} : List (DataW H) → Nat
  | [] => 0
  | d :: r => uptoBulk d + uptoBulkAll r
def uptoBulkEntries {H : Type} : List (Lit × DataW H) → Nat
  | [] => 0
  | x :: r => uptoBulkEntry x + uptoBulkEntries r
def uptoBulkEntry {H : Type} : Lit × DataW H → Nat
  | (.string bytes, d) => bytes.length + uptoBulk d + 1
  | (_, d) => uptoBulk d + 1
 end
def uptoSmall : (H : Type) → List (DataW H) → Bool := fun _ ds => decide (uptoBulkAll ds ≤ 1048576)
def OpenSpec.upto (s : _root_.Go.ChangeSpec) : _root_.Go.OpenSpec := { _root_.Go.OpenSpec.ofChange s with cond := some uptoSmall }

/-- 'laws.FnLerpEnds', WHERE WHAT IT READS IS OF BULK AT MOST 1048576: true; the input reads as it did. -/
def fnLerpEndsUptoRow : OpenClaim := { program := "ytcidgicdeedgfaa", sum := "5bfe7c69988644bc7480d7ffb1a08b764ae42d1ad3d109d2fc980d0a2ea12970", func := "pub-alidade/laws.FnLerpEnds", spec := "fnLerpEnds", inPlace := ["math.Float64bits", "math.Float64frombits", "math.archMax", "math.archMin"], plainKeys := false, apart := false, narrowed := true }
def FnLerpEndsUptoSaid : Prop := fnLerpEndsUptoRow.holds Try.pinned (OpenSpec.upto fnLerpEndsSpec)

/-- 'laws.FnEnvCoversAll', WHERE WHAT IT READS IS OF BULK AT MOST 1048576: true; the input reads as it did. -/
def fnEnvCoversAllUptoRow : OpenClaim := { program := "ytcidgicdeedgfaa", sum := "5bfe7c69988644bc7480d7ffb1a08b764ae42d1ad3d109d2fc980d0a2ea12970", func := "pub-alidade/laws.FnEnvCoversAll", spec := "fnEnvCoversAll", inPlace := ["math.Float64bits", "math.Float64frombits"], plainKeys := false, apart := false, narrowed := true }
def FnEnvCoversAllUptoSaid : Prop := fnEnvCoversAllUptoRow.holds Try.pinned (OpenSpec.upto fnEnvCoversAllSpec)

/-- 'laws.FnNodesOwn', WHERE WHAT IT READS IS OF BULK AT MOST 1048576: true; the input reads as it did. -/
def fnNodesOwnUptoRow : OpenClaim := { program := "ytcidgicdeedgfaa", sum := "5bfe7c69988644bc7480d7ffb1a08b764ae42d1ad3d109d2fc980d0a2ea12970", func := "pub-alidade/laws.FnNodesOwn", spec := "fnNodesOwn", inPlace := ["math.archFloor", "math.Float64bits", "math.Float64frombits", "math.archTrunc"], plainKeys := false, apart := false, narrowed := true }
def FnNodesOwnUptoSaid : Prop := fnNodesOwnUptoRow.holds Try.pinned (OpenSpec.upto fnNodesOwnSpec)

end Rows
end Go.Proofs.Ytcidgicdeedgfaa
