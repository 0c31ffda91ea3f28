/-
  No cell of these rows narrows 'for every input' (looked for: loops, veiled, ifaces, maps, wideKeys, modest, calm, conditions, laid).
  DERIVED. THE GIVEN ROWS OF THIS SEAT. 3 by the template 'for every input the law returns true; each argument reads behind the call as it read before'; 0 by the template 'total and deterministic' (their statements: Qxb6612740aTotals.lean).
  GIVEN WITH THE SEED: the statements are not yours to turn. If you find one false, say at which input.
  Laid BY PROGRAM, IN A SANDBOX (cutbox-rows.mjs): the forced cells as the released guide's own fill.sh prints them over the translation ae6b80fd38dece0b… (all of the seat's roots in one cut). By AI agents, Wed Nov 11 2026. No macro, syntax, notation, axiom, sorry.
-/
import Derived.Test.Qxb6612740aChecked
import GoSem.Claim
import GoSem.ClaimJoined
import GoSem.ClaimMapViews
import Derived.JoinedTies
import Derived.KernelRfl
namespace Go.Proofs.Qxb6612740a
/- THE CELL 'sum', in the pinned program and in every row, IS THE sha256 OF THE DUMP (.gsa) THAT Qxb6612740aProg.lean LOADS. Nothing in Lean hashes anything: it is a label: what it is worth is what the hold of that sum in a sandbox is worth. -/
noncomputable def Try.pinned : Pinned := { name := "qxb6612740a", sum := "ae6b80fd38dece0bc8afbfdb6c5bda72e20730174e2384d76bfdaa6cd158ec09", checked := Try.checked }
namespace Rows
def none {H : Type} : Left H := { results := [], args := [] }

/-- 'zzlaws_root_b1.FnFileCutExactlyOneOfSwapped': WHATEVER THE INPUT: true; the input reads as it did. -/
def fnFileCutExactlyOneOfSwappedSpec : ChangeSpec := { name := "fnFileCutExactlyOneOfSwapped", fn := fun _ => fun
  | [d1, d2, d3, d4, d5, d6, d7] => { results := [.lit (.bool true)], args := [d1, d2, d3, d4, d5, d6, d7] }
  | _ => none }
def fnFileCutExactlyOneOfSwappedRow : OpenClaim := { program := "qxb6612740a", sum := "ae6b80fd38dece0bc8afbfdb6c5bda72e20730174e2384d76bfdaa6cd158ec09", func := "example.com/lamina/lamina/zzlaws_root_b1.FnFileCutExactlyOneOfSwapped", spec := "fnFileCutExactlyOneOfSwapped", apart := false }
def FnFileCutExactlyOneOfSwappedSaid : Prop := fnFileCutExactlyOneOfSwappedRow.holds Try.pinned (OpenSpec.ofChange fnFileCutExactlyOneOfSwappedSpec)

/-- ITS FALSE NEIGHBOUR: 'it returns false'. Refute it at one input. -/
def fnFileCutExactlyOneOfSwappedWrong : ChangeSpec := { name := "fnFileCutExactlyOneOfSwapped", fn := fun _ => fun
  | [d1, d2, d3, d4, d5, d6, d7] => { results := [.lit (.bool false)], args := [d1, d2, d3, d4, d5, d6, d7] }
  | _ => none }
def FnFileCutExactlyOneOfSwappedWrongFalsely : Prop := fnFileCutExactlyOneOfSwappedRow.holds Try.pinned (OpenSpec.ofChange fnFileCutExactlyOneOfSwappedWrong)

/-- 'zzlaws_root_b1.FnFileCutThresholdAndMonotone': WHATEVER THE INPUT: true; the input reads as it did. -/
def fnFileCutThresholdAndMonotoneSpec : ChangeSpec := { name := "fnFileCutThresholdAndMonotone", fn := fun _ => fun
  | [d1, d2, d3, d4] => { results := [.lit (.bool true)], args := [d1, d2, d3, d4] }
  | _ => none }
def fnFileCutThresholdAndMonotoneRow : OpenClaim := { program := "qxb6612740a", sum := "ae6b80fd38dece0bc8afbfdb6c5bda72e20730174e2384d76bfdaa6cd158ec09", func := "example.com/lamina/lamina/zzlaws_root_b1.FnFileCutThresholdAndMonotone", spec := "fnFileCutThresholdAndMonotone", apart := false }
def FnFileCutThresholdAndMonotoneSaid : Prop := fnFileCutThresholdAndMonotoneRow.holds Try.pinned (OpenSpec.ofChange fnFileCutThresholdAndMonotoneSpec)

/-- ITS FALSE NEIGHBOUR: 'it returns false'. Refute it at one input. -/
def fnFileCutThresholdAndMonotoneWrong : ChangeSpec := { name := "fnFileCutThresholdAndMonotone", fn := fun _ => fun
  | [d1, d2, d3, d4] => { results := [.lit (.bool false)], args := [d1, d2, d3, d4] }
  | _ => none }
def FnFileCutThresholdAndMonotoneWrongFalsely : Prop := fnFileCutThresholdAndMonotoneRow.holds Try.pinned (OpenSpec.ofChange fnFileCutThresholdAndMonotoneWrong)

/-- 'zzlaws_root_b1.FnWorkspaceSourcesFollowTheRulesFile': WHATEVER THE INPUT: true; the input reads as it did. -/
def fnWorkspaceSourcesFollowTheRulesFileSpec : ChangeSpec := { name := "fnWorkspaceSourcesFollowTheRulesFile", fn := fun _ => fun
  | [d1, d2, d3, d4, d5, d6, d7, d8] => { results := [.lit (.bool true)], args := [d1, d2, d3, d4, d5, d6, d7, d8] }
  | _ => none }
def fnWorkspaceSourcesFollowTheRulesFileRow : OpenClaim := { program := "qxb6612740a", sum := "ae6b80fd38dece0bc8afbfdb6c5bda72e20730174e2384d76bfdaa6cd158ec09", func := "example.com/lamina/lamina/zzlaws_root_b1.FnWorkspaceSourcesFollowTheRulesFile", spec := "fnWorkspaceSourcesFollowTheRulesFile", apart := false }
def FnWorkspaceSourcesFollowTheRulesFileSaid : Prop := fnWorkspaceSourcesFollowTheRulesFileRow.holds Try.pinned (OpenSpec.ofChange fnWorkspaceSourcesFollowTheRulesFileSpec)

/-- ITS FALSE NEIGHBOUR: 'it returns false'. Refute it at one input. -/
def fnWorkspaceSourcesFollowTheRulesFileWrong : ChangeSpec := { name := "fnWorkspaceSourcesFollowTheRulesFile", fn := fun _ => fun
  | [d1, d2, d3, d4, d5, d6, d7, d8] => { results := [.lit (.bool false)], args := [d1, d2, d3, d4, d5, d6, d7, d8] }
  | _ => none }
def FnWorkspaceSourcesFollowTheRulesFileWrongFalsely : Prop := fnWorkspaceSourcesFollowTheRulesFileRow.holds Try.pinned (OpenSpec.ofChange fnWorkspaceSourcesFollowTheRulesFileWrong)

end Rows
end Go.Proofs.Qxb6612740a
