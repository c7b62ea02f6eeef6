/-
  No cell of these rows narrows 'for every input' (looked for: loops, veiled, ifaces, maps, wideKeys, modest, calm, conditions, laid).
  DERIVED. THE GIVEN ROWS OF THIS SEAT. 6 by the template 'for every input the law returns true; each argument reads behind the call as it read before'; 0 by the template 'total and deterministic' (their statements: Qxb6605187aTotals.lean).
  GIVEN WITH THE SEED: the statements are not yours to turn. If you find one false, say at which input.
  Laid BY PROGRAM, IN A SANDBOX (cutbox-rows.mjs): the forced cells as the released guide's own fill.sh prints them over the translation 405730133c744ffb… (all of the seat's roots in one cut). By AI agents, Wed Nov 11 2026. No macro, syntax, notation, axiom, sorry.
-/
import Derived.Test.Qxb6605187aChecked
import GoSem.Claim
import GoSem.ClaimJoined
import GoSem.ClaimMapViews
import Derived.JoinedTies
import Derived.KernelRfl
namespace Go.Proofs.Qxb6605187a
/- THE CELL 'sum', in the pinned program and in every row, IS THE sha256 OF THE DUMP (.gsa) THAT Qxb6605187aProg.lean LOADS. Nothing in Lean hashes anything: it is a label: what it is worth is what the hold of that sum in a sandbox is worth. -/
noncomputable def Try.pinned : Pinned := { name := "qxb6605187a", sum := "405730133c744ffb64c1e3093ae3e0023b642a72abafb60a3949fa5c56932517", checked := Try.checked }
namespace Rows
def none {H : Type} : Left H := { results := [], args := [] }

/-- 'zzlaws_graph_b1.FnPickSourcesIsGreedyCover': WHATEVER THE INPUT: true; the input reads as it did. -/
def fnPickSourcesIsGreedyCoverSpec : ChangeSpec := { name := "fnPickSourcesIsGreedyCover", fn := fun _ => fun
  | [d1, d2, d3, d4, d5, d6, d7] => { results := [.lit (.bool true)], args := [d1, d2, d3, d4, d5, d6, d7] }
  | _ => none }
def fnPickSourcesIsGreedyCoverRow : OpenClaim := { program := "qxb6605187a", sum := "405730133c744ffb64c1e3093ae3e0023b642a72abafb60a3949fa5c56932517", func := "example.com/weft/weft/zzlaws_graph_b1.FnPickSourcesIsGreedyCover", spec := "fnPickSourcesIsGreedyCover", apart := false }
def FnPickSourcesIsGreedyCoverSaid : Prop := fnPickSourcesIsGreedyCoverRow.holds Try.pinned (OpenSpec.ofChange fnPickSourcesIsGreedyCoverSpec)

/-- ITS FALSE NEIGHBOUR: 'it returns false'. Refute it at one input. -/
def fnPickSourcesIsGreedyCoverWrong : ChangeSpec := { name := "fnPickSourcesIsGreedyCover", fn := fun _ => fun
  | [d1, d2, d3, d4, d5, d6, d7] => { results := [.lit (.bool false)], args := [d1, d2, d3, d4, d5, d6, d7] }
  | _ => none }
def FnPickSourcesIsGreedyCoverWrongFalsely : Prop := fnPickSourcesIsGreedyCoverRow.holds Try.pinned (OpenSpec.ofChange fnPickSourcesIsGreedyCoverWrong)

/-- 'zzlaws_graph_b1.FnPickSourcesShortRunIsPrefixOfFullRun': WHATEVER THE INPUT: true; the input reads as it did. -/
def fnPickSourcesShortRunIsPrefixOfFullRunSpec : ChangeSpec := { name := "fnPickSourcesShortRunIsPrefixOfFullRun", fn := fun _ => fun
  | [d1, d2, d3, d4, d5, d6, d7] => { results := [.lit (.bool true)], args := [d1, d2, d3, d4, d5, d6, d7] }
  | _ => none }
def fnPickSourcesShortRunIsPrefixOfFullRunRow : OpenClaim := { program := "qxb6605187a", sum := "405730133c744ffb64c1e3093ae3e0023b642a72abafb60a3949fa5c56932517", func := "example.com/weft/weft/zzlaws_graph_b1.FnPickSourcesShortRunIsPrefixOfFullRun", spec := "fnPickSourcesShortRunIsPrefixOfFullRun", apart := false }
def FnPickSourcesShortRunIsPrefixOfFullRunSaid : Prop := fnPickSourcesShortRunIsPrefixOfFullRunRow.holds Try.pinned (OpenSpec.ofChange fnPickSourcesShortRunIsPrefixOfFullRunSpec)

/-- ITS FALSE NEIGHBOUR: 'it returns false'. Refute it at one input. -/
def fnPickSourcesShortRunIsPrefixOfFullRunWrong : ChangeSpec := { name := "fnPickSourcesShortRunIsPrefixOfFullRun", fn := fun _ => fun
  | [d1, d2, d3, d4, d5, d6, d7] => { results := [.lit (.bool false)], args := [d1, d2, d3, d4, d5, d6, d7] }
  | _ => none }
def FnPickSourcesShortRunIsPrefixOfFullRunWrongFalsely : Prop := fnPickSourcesShortRunIsPrefixOfFullRunRow.holds Try.pinned (OpenSpec.ofChange fnPickSourcesShortRunIsPrefixOfFullRunWrong)

/-- 'zzlaws_graph_b1.FnComponentsOfSizeAreInducedSubgraphs': WHATEVER THE INPUT: true; the input reads as it did. -/
def fnComponentsOfSizeAreInducedSubgraphsSpec : ChangeSpec := { name := "fnComponentsOfSizeAreInducedSubgraphs", fn := fun _ => fun
  | [d1, d2, d3, d4, d5] => { results := [.lit (.bool true)], args := [d1, d2, d3, d4, d5] }
  | _ => none }
def fnComponentsOfSizeAreInducedSubgraphsRow : OpenClaim := { program := "qxb6605187a", sum := "405730133c744ffb64c1e3093ae3e0023b642a72abafb60a3949fa5c56932517", func := "example.com/weft/weft/zzlaws_graph_b1.FnComponentsOfSizeAreInducedSubgraphs", spec := "fnComponentsOfSizeAreInducedSubgraphs", apart := false }
def FnComponentsOfSizeAreInducedSubgraphsSaid : Prop := fnComponentsOfSizeAreInducedSubgraphsRow.holds Try.pinned (OpenSpec.ofChange fnComponentsOfSizeAreInducedSubgraphsSpec)

/-- ITS FALSE NEIGHBOUR: 'it returns false'. Refute it at one input. -/
def fnComponentsOfSizeAreInducedSubgraphsWrong : ChangeSpec := { name := "fnComponentsOfSizeAreInducedSubgraphs", fn := fun _ => fun
  | [d1, d2, d3, d4, d5] => { results := [.lit (.bool false)], args := [d1, d2, d3, d4, d5] }
  | _ => none }
def FnComponentsOfSizeAreInducedSubgraphsWrongFalsely : Prop := fnComponentsOfSizeAreInducedSubgraphsRow.holds Try.pinned (OpenSpec.ofChange fnComponentsOfSizeAreInducedSubgraphsWrong)

/-- 'zzlaws_graph_b1.FnComponentsOfSizeAgreesWithComponents': WHATEVER THE INPUT: true; the input reads as it did. -/
def fnComponentsOfSizeAgreesWithComponentsSpec : ChangeSpec := { name := "fnComponentsOfSizeAgreesWithComponents", fn := fun _ => fun
  | [d1, d2, d3] => { results := [.lit (.bool true)], args := [d1, d2, d3] }
  | _ => none }
def fnComponentsOfSizeAgreesWithComponentsRow : OpenClaim := { program := "qxb6605187a", sum := "405730133c744ffb64c1e3093ae3e0023b642a72abafb60a3949fa5c56932517", func := "example.com/weft/weft/zzlaws_graph_b1.FnComponentsOfSizeAgreesWithComponents", spec := "fnComponentsOfSizeAgreesWithComponents", apart := false }
def FnComponentsOfSizeAgreesWithComponentsSaid : Prop := fnComponentsOfSizeAgreesWithComponentsRow.holds Try.pinned (OpenSpec.ofChange fnComponentsOfSizeAgreesWithComponentsSpec)

/-- ITS FALSE NEIGHBOUR: 'it returns false'. Refute it at one input. -/
def fnComponentsOfSizeAgreesWithComponentsWrong : ChangeSpec := { name := "fnComponentsOfSizeAgreesWithComponents", fn := fun _ => fun
  | [d1, d2, d3] => { results := [.lit (.bool false)], args := [d1, d2, d3] }
  | _ => none }
def FnComponentsOfSizeAgreesWithComponentsWrongFalsely : Prop := fnComponentsOfSizeAgreesWithComponentsRow.holds Try.pinned (OpenSpec.ofChange fnComponentsOfSizeAgreesWithComponentsWrong)

/-- 'zzlaws_graph_b1.FnGatherIsOnePullOfAPush': WHATEVER THE INPUT: true; the input reads as it did. -/
def fnGatherIsOnePullOfAPushSpec : ChangeSpec := { name := "fnGatherIsOnePullOfAPush", fn := fun _ => fun
  | [d1, d2, d3, d4, d5, d6] => { results := [.lit (.bool true)], args := [d1, d2, d3, d4, d5, d6] }
  | _ => none }
def fnGatherIsOnePullOfAPushRow : OpenClaim := { program := "qxb6605187a", sum := "405730133c744ffb64c1e3093ae3e0023b642a72abafb60a3949fa5c56932517", func := "example.com/weft/weft/zzlaws_graph_b1.FnGatherIsOnePullOfAPush", spec := "fnGatherIsOnePullOfAPush", apart := false }
def FnGatherIsOnePullOfAPushSaid : Prop := fnGatherIsOnePullOfAPushRow.holds Try.pinned (OpenSpec.ofChange fnGatherIsOnePullOfAPushSpec)

/-- ITS FALSE NEIGHBOUR: 'it returns false'. Refute it at one input. -/
def fnGatherIsOnePullOfAPushWrong : ChangeSpec := { name := "fnGatherIsOnePullOfAPush", fn := fun _ => fun
  | [d1, d2, d3, d4, d5, d6] => { results := [.lit (.bool false)], args := [d1, d2, d3, d4, d5, d6] }
  | _ => none }
def FnGatherIsOnePullOfAPushWrongFalsely : Prop := fnGatherIsOnePullOfAPushRow.holds Try.pinned (OpenSpec.ofChange fnGatherIsOnePullOfAPushWrong)

/-- 'zzlaws_graph_b1.FnGatherRoundsReachWholeComponents': WHATEVER THE INPUT: true; the input reads as it did. -/
def fnGatherRoundsReachWholeComponentsSpec : ChangeSpec := { name := "fnGatherRoundsReachWholeComponents", fn := fun _ => fun
  | [d1, d2, d3] => { results := [.lit (.bool true)], args := [d1, d2, d3] }
  | _ => none }
def fnGatherRoundsReachWholeComponentsRow : OpenClaim := { program := "qxb6605187a", sum := "405730133c744ffb64c1e3093ae3e0023b642a72abafb60a3949fa5c56932517", func := "example.com/weft/weft/zzlaws_graph_b1.FnGatherRoundsReachWholeComponents", spec := "fnGatherRoundsReachWholeComponents", apart := false }
def FnGatherRoundsReachWholeComponentsSaid : Prop := fnGatherRoundsReachWholeComponentsRow.holds Try.pinned (OpenSpec.ofChange fnGatherRoundsReachWholeComponentsSpec)

/-- ITS FALSE NEIGHBOUR: 'it returns false'. Refute it at one input. -/
def fnGatherRoundsReachWholeComponentsWrong : ChangeSpec := { name := "fnGatherRoundsReachWholeComponents", fn := fun _ => fun
  | [d1, d2, d3] => { results := [.lit (.bool false)], args := [d1, d2, d3] }
  | _ => none }
def FnGatherRoundsReachWholeComponentsWrongFalsely : Prop := fnGatherRoundsReachWholeComponentsRow.holds Try.pinned (OpenSpec.ofChange fnGatherRoundsReachWholeComponentsWrong)

end Rows
end Go.Proofs.Qxb6605187a
