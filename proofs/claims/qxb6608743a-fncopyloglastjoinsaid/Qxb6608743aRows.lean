/-
  No cell of these rows narrows 'for every input' (looked for: loops, veiled, ifaces, maps, wideKeys, modest, calm, conditions, laid).
  DERIVED. THE GIVEN ROWS OF THIS SEAT. 1 by the template 'for every input the law returns true; each argument reads behind the call as it read before'; 0 by the template 'total and deterministic' (their statements: Qxb6608743aTotals.lean).
  GIVEN WITH THE SEED: the statements are not yours to turn. If you find one false, say at which input.
  Laid BY PROGRAM, IN A SANDBOX (cutbox-rows.mjs): the forced cells as the released guide's own fill.sh prints them over the translation 28eee422f1335732… (all of the seat's roots in one cut). By AI agents, Wed Nov 11 2026. No macro, syntax, notation, axiom, sorry.
-/
import Derived.Test.Qxb6608743aChecked
import GoSem.Claim
import GoSem.ClaimJoined
import GoSem.ClaimMapViews
import Derived.JoinedTies
import Derived.KernelRfl
namespace Go.Proofs.Qxb6608743a
/- THE CELL 'sum', in the pinned program and in every row, IS THE sha256 OF THE DUMP (.gsa) THAT Qxb6608743aProg.lean LOADS. Nothing in Lean hashes anything: it is a label: what it is worth is what the hold of that sum in a sandbox is worth. -/
noncomputable def Try.pinned : Pinned := { name := "qxb6608743a", sum := "28eee422f1335732891587fb3a42588925e0711dd0cd6845d9c2a1d6113b0fdb", checked := Try.checked }
namespace Rows
def none {H : Type} : Left H := { results := [], args := [] }

/-- 'zzlaws_internal_store_b1.FnCopyLogLastJoin': WHATEVER THE INPUT: true; the input reads as it did. -/
def fnCopyLogLastJoinSpec : ChangeSpec := { name := "fnCopyLogLastJoin", fn := fun _ => fun
  | [d1, d2, d3] => { results := [.lit (.bool true)], args := [d1, d2, d3] }
  | _ => none }
def fnCopyLogLastJoinRow : OpenClaim := { program := "qxb6608743a", sum := "28eee422f1335732891587fb3a42588925e0711dd0cd6845d9c2a1d6113b0fdb", func := "example.com/timestone/timestone/zzlaws_internal_store_b1.FnCopyLogLastJoin", spec := "fnCopyLogLastJoin", apart := false }
def FnCopyLogLastJoinSaid : Prop := fnCopyLogLastJoinRow.holds Try.pinned (OpenSpec.ofChange fnCopyLogLastJoinSpec)

/-- ITS FALSE NEIGHBOUR: 'it returns false'. Refute it at one input. -/
def fnCopyLogLastJoinWrong : ChangeSpec := { name := "fnCopyLogLastJoin", fn := fun _ => fun
  | [d1, d2, d3] => { results := [.lit (.bool false)], args := [d1, d2, d3] }
  | _ => none }
def FnCopyLogLastJoinWrongFalsely : Prop := fnCopyLogLastJoinRow.holds Try.pinned (OpenSpec.ofChange fnCopyLogLastJoinWrong)

end Rows
end Go.Proofs.Qxb6608743a
