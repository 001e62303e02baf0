/-
  No cell of these rows narrows 'for every input' (looked for: loops, veiled, ifaces, maps, wideKeys, modest, calm, conditions, laid).
  DERIVED. THE GIVEN ROWS OF THIS SEAT. 2 by the template 'for every input the law returns true; each argument reads behind the call as it read before'; 0 by the template 'total and deterministic' (their statements: Qxb6608546aTotals.lean).
  GIVEN WITH THE SEED: the statements are not yours to turn. If you find one false, say at which input.
  Laid BY PROGRAM, IN A SANDBOX (cutbox-rows.mjs): the forced cells as the released guide's own fill.sh prints them over the translation fbae3257979a69f8… (all of the seat's roots in one cut). By AI agents, Wed Nov 11 2026. No macro, syntax, notation, axiom, sorry.
-/
import Derived.Test.Qxb6608546aChecked
import GoSem.Claim
import GoSem.ClaimJoined
import GoSem.ClaimMapViews
import Derived.JoinedTies
import Derived.KernelRfl
namespace Go.Proofs.Qxb6608546a
/- THE CELL 'sum', in the pinned program and in every row, IS THE sha256 OF THE DUMP (.gsa) THAT Qxb6608546aProg.lean LOADS. Nothing in Lean hashes anything: it is a label: what it is worth is what the hold of that sum in a sandbox is worth. -/
noncomputable def Try.pinned : Pinned := { name := "qxb6608546a", sum := "fbae3257979a69f89f8fc9c72f8f85841f3b72c01a95844451580d458e45221e", checked := Try.checked }
namespace Rows
def none {H : Type} : Left H := { results := [], args := [] }

/-- 'zzlaws_internal_fabric_b1.FnTagCubeCountMultipliesOverSplit': WHATEVER THE INPUT: true; the input reads as it did. -/
def fnTagCubeCountMultipliesOverSplitSpec : ChangeSpec := { name := "fnTagCubeCountMultipliesOverSplit", fn := fun _ => fun
  | [d1, d2, d3] => { results := [.lit (.bool true)], args := [d1, d2, d3] }
  | _ => none }
def fnTagCubeCountMultipliesOverSplitRow : OpenClaim := { program := "qxb6608546a", sum := "fbae3257979a69f89f8fc9c72f8f85841f3b72c01a95844451580d458e45221e", func := "example.com/corelith/corelith/zzlaws_internal_fabric_b1.FnTagCubeCountMultipliesOverSplit", spec := "fnTagCubeCountMultipliesOverSplit", apart := false }
def FnTagCubeCountMultipliesOverSplitSaid : Prop := fnTagCubeCountMultipliesOverSplitRow.holds Try.pinned (OpenSpec.ofChange fnTagCubeCountMultipliesOverSplitSpec)

/-- ITS FALSE NEIGHBOUR: 'it returns false'. Refute it at one input. -/
def fnTagCubeCountMultipliesOverSplitWrong : ChangeSpec := { name := "fnTagCubeCountMultipliesOverSplit", fn := fun _ => fun
  | [d1, d2, d3] => { results := [.lit (.bool false)], args := [d1, d2, d3] }
  | _ => none }
def FnTagCubeCountMultipliesOverSplitWrongFalsely : Prop := fnTagCubeCountMultipliesOverSplitRow.holds Try.pinned (OpenSpec.ofChange fnTagCubeCountMultipliesOverSplitWrong)

/-- 'zzlaws_internal_fabric_b1.FnTagCubeCountIgnoresTagCountsSubsets': WHATEVER THE INPUT: true; the input reads as it did. -/
def fnTagCubeCountIgnoresTagCountsSubsetsSpec : ChangeSpec := { name := "fnTagCubeCountIgnoresTagCountsSubsets", fn := fun _ => fun
  | [d1, d2, d3] => { results := [.lit (.bool true)], args := [d1, d2, d3] }
  | _ => none }
def fnTagCubeCountIgnoresTagCountsSubsetsRow : OpenClaim := { program := "qxb6608546a", sum := "fbae3257979a69f89f8fc9c72f8f85841f3b72c01a95844451580d458e45221e", func := "example.com/corelith/corelith/zzlaws_internal_fabric_b1.FnTagCubeCountIgnoresTagCountsSubsets", spec := "fnTagCubeCountIgnoresTagCountsSubsets", apart := false }
def FnTagCubeCountIgnoresTagCountsSubsetsSaid : Prop := fnTagCubeCountIgnoresTagCountsSubsetsRow.holds Try.pinned (OpenSpec.ofChange fnTagCubeCountIgnoresTagCountsSubsetsSpec)

/-- ITS FALSE NEIGHBOUR: 'it returns false'. Refute it at one input. -/
def fnTagCubeCountIgnoresTagCountsSubsetsWrong : ChangeSpec := { name := "fnTagCubeCountIgnoresTagCountsSubsets", fn := fun _ => fun
  | [d1, d2, d3] => { results := [.lit (.bool false)], args := [d1, d2, d3] }
  | _ => none }
def FnTagCubeCountIgnoresTagCountsSubsetsWrongFalsely : Prop := fnTagCubeCountIgnoresTagCountsSubsetsRow.holds Try.pinned (OpenSpec.ofChange fnTagCubeCountIgnoresTagCountsSubsetsWrong)

end Rows
end Go.Proofs.Qxb6608546a
