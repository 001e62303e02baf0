/-
  No cell of these rows narrows 'for every input' (looked for: loops, veiled, ifaces, maps, wideKeys, modest, calm, conditions, laid).
  DERIVED. THE GIVEN ROWS OF THIS SEAT. 2 by the template 'for every input the law returns true; each argument reads behind the call as it read before'; 0 by the template 'total and deterministic' (their statements: Qxb6608687aTotals.lean).
  GIVEN WITH THE SEED: the statements are not yours to turn. If you find one false, say at which input.
  Laid BY PROGRAM, IN A SANDBOX (cutbox-rows.mjs): the forced cells as the released guide's own fill.sh prints them over the translation 2e543fe364d54f6b… (all of the seat's roots in one cut). By AI agents, Wed Nov 11 2026. No macro, syntax, notation, axiom, sorry.
-/
import Derived.Test.Qxb6608687aChecked
import GoSem.Claim
import GoSem.ClaimJoined
import GoSem.ClaimMapViews
import Derived.JoinedTies
import Derived.KernelRfl
namespace Go.Proofs.Qxb6608687a
/- THE CELL 'sum', in the pinned program and in every row, IS THE sha256 OF THE DUMP (.gsa) THAT Qxb6608687aProg.lean LOADS. Nothing in Lean hashes anything: it is a label: what it is worth is what the hold of that sum in a sandbox is worth. -/
noncomputable def Try.pinned : Pinned := { name := "qxb6608687a", sum := "2e543fe364d54f6ba8bb445dcee61f3e95d288072f34d3df4de41370f394f22b", checked := Try.checked }
namespace Rows
def none {H : Type} : Left H := { results := [], args := [] }

/-- 'zzlaws_root_b1.FnEpochWindowsTile': WHATEVER THE INPUT: true; the input reads as it did. -/
def fnEpochWindowsTileSpec : ChangeSpec := { name := "fnEpochWindowsTile", fn := fun _ => fun
  | [d] => { results := [.lit (.bool true)], args := [d] }
  | _ => none }
def fnEpochWindowsTileRow : OpenClaim := { program := "qxb6608687a", sum := "2e543fe364d54f6ba8bb445dcee61f3e95d288072f34d3df4de41370f394f22b", func := "ordinate.example/ordinate/zzlaws_root_b1.FnEpochWindowsTile", spec := "fnEpochWindowsTile", apart := false }
def FnEpochWindowsTileSaid : Prop := fnEpochWindowsTileRow.holds Try.pinned (OpenSpec.ofChange fnEpochWindowsTileSpec)

/-- ITS FALSE NEIGHBOUR: 'it returns false'. Refute it at one input. -/
def fnEpochWindowsTileWrong : ChangeSpec := { name := "fnEpochWindowsTile", fn := fun _ => fun
  | [d] => { results := [.lit (.bool false)], args := [d] }
  | _ => none }
def FnEpochWindowsTileWrongFalsely : Prop := fnEpochWindowsTileRow.holds Try.pinned (OpenSpec.ofChange fnEpochWindowsTileWrong)

/-- 'zzlaws_root_b1.FnEpochOfStamp': WHATEVER THE INPUT: true; the input reads as it did. -/
def fnEpochOfStampSpec : ChangeSpec := { name := "fnEpochOfStamp", fn := fun _ => fun
  | [d1, d2] => { results := [.lit (.bool true)], args := [d1, d2] }
  | _ => none }
def fnEpochOfStampRow : OpenClaim := { program := "qxb6608687a", sum := "2e543fe364d54f6ba8bb445dcee61f3e95d288072f34d3df4de41370f394f22b", func := "ordinate.example/ordinate/zzlaws_root_b1.FnEpochOfStamp", spec := "fnEpochOfStamp", apart := false }
def FnEpochOfStampSaid : Prop := fnEpochOfStampRow.holds Try.pinned (OpenSpec.ofChange fnEpochOfStampSpec)

/-- ITS FALSE NEIGHBOUR: 'it returns false'. Refute it at one input. -/
def fnEpochOfStampWrong : ChangeSpec := { name := "fnEpochOfStamp", fn := fun _ => fun
  | [d1, d2] => { results := [.lit (.bool false)], args := [d1, d2] }
  | _ => none }
def FnEpochOfStampWrongFalsely : Prop := fnEpochOfStampRow.holds Try.pinned (OpenSpec.ofChange fnEpochOfStampWrong)

end Rows
end Go.Proofs.Qxb6608687a
