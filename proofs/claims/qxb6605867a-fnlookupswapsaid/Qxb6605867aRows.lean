/-
  NARROWER THAN 'FOR EVERY INPUT', by the rows' own cells (each row's printed sentence says how): FnLookupSwap: maps.
  DERIVED. THE GIVEN ROWS OF THIS SEAT. 3 by the template 'for every input the law returns true; each argument reads behind the call as it read before'; 0 by the template 'total and deterministic' (their statements: Qxb6605867aTotals.lean).
  GIVEN WITH THE SEED: the statements are not yours to turn. If you find one false, say at which input.
  Laid BY PROGRAM, IN A SANDBOX (cutbox-rows.mjs): the forced cells as the released guide's own fill.sh prints them over the translation 872d34c76dbf4ae3… (all of the seat's roots in one cut). By AI agents, Wed Nov 11 2026. No macro, syntax, notation, axiom, sorry.
-/
import Derived.Test.Qxb6605867aChecked
import GoSem.Claim
import GoSem.ClaimJoined
import GoSem.ClaimMapViews
import Derived.JoinedTies
import Derived.KernelRfl
namespace Go.Proofs.Qxb6605867a
/- THE CELL 'sum', in the pinned program and in every row, IS THE sha256 OF THE DUMP (.gsa) THAT Qxb6605867aProg.lean LOADS. Nothing in Lean hashes anything: it is a label: what it is worth is what the hold of that sum in a sandbox is worth. -/
noncomputable def Try.pinned : Pinned := { name := "qxb6605867a", sum := "872d34c76dbf4ae31ce8c7780184bea917d1d4f3e5e5b611a018e7b1ae2e5aeb", checked := Try.checked }
namespace Rows
def none {H : Type} : Left H := { results := [], args := [] }

/-- 'zzlaws_endpoint_b1.FnKindSetOfMeetJoin': WHATEVER THE INPUT: true; the input reads as it did. -/
def fnKindSetOfMeetJoinSpec : ChangeSpec := { name := "fnKindSetOfMeetJoin", fn := fun _ => fun
  | [d1, d2] => { results := [.lit (.bool true)], args := [d1, d2] }
  | _ => none }
def fnKindSetOfMeetJoinRow : OpenClaim := { program := "qxb6605867a", sum := "872d34c76dbf4ae31ce8c7780184bea917d1d4f3e5e5b611a018e7b1ae2e5aeb", func := "example.com/pnyx/pnyx/zzlaws_endpoint_b1.FnKindSetOfMeetJoin", spec := "fnKindSetOfMeetJoin", apart := false }
def FnKindSetOfMeetJoinSaid : Prop := fnKindSetOfMeetJoinRow.holds Try.pinned (OpenSpec.ofChange fnKindSetOfMeetJoinSpec)

/-- ITS FALSE NEIGHBOUR: 'it returns false'. Refute it at one input. -/
def fnKindSetOfMeetJoinWrong : ChangeSpec := { name := "fnKindSetOfMeetJoin", fn := fun _ => fun
  | [d1, d2] => { results := [.lit (.bool false)], args := [d1, d2] }
  | _ => none }
def FnKindSetOfMeetJoinWrongFalsely : Prop := fnKindSetOfMeetJoinRow.holds Try.pinned (OpenSpec.ofChange fnKindSetOfMeetJoinWrong)

/-- 'zzlaws_endpoint_b1.FnParameterKindsAdmits': WHATEVER THE INPUT: true; the input reads as it did. -/
def fnParameterKindsAdmitsSpec : ChangeSpec := { name := "fnParameterKindsAdmits", fn := fun _ => fun
  | [d1, d2, d3, d4, d5, d6, d7, d8, d9] => { results := [.lit (.bool true)], args := [d1, d2, d3, d4, d5, d6, d7, d8, d9] }
  | _ => none }
def fnParameterKindsAdmitsRow : OpenClaim := { program := "qxb6605867a", sum := "872d34c76dbf4ae31ce8c7780184bea917d1d4f3e5e5b611a018e7b1ae2e5aeb", func := "example.com/pnyx/pnyx/zzlaws_endpoint_b1.FnParameterKindsAdmits", spec := "fnParameterKindsAdmits", apart := false }
def FnParameterKindsAdmitsSaid : Prop := fnParameterKindsAdmitsRow.holds Try.pinned (OpenSpec.ofChange fnParameterKindsAdmitsSpec)

/-- ITS FALSE NEIGHBOUR: 'it returns false'. Refute it at one input. -/
def fnParameterKindsAdmitsWrong : ChangeSpec := { name := "fnParameterKindsAdmits", fn := fun _ => fun
  | [d1, d2, d3, d4, d5, d6, d7, d8, d9] => { results := [.lit (.bool false)], args := [d1, d2, d3, d4, d5, d6, d7, d8, d9] }
  | _ => none }
def FnParameterKindsAdmitsWrongFalsely : Prop := fnParameterKindsAdmitsRow.holds Try.pinned (OpenSpec.ofChange fnParameterKindsAdmitsWrong)

/-- 'zzlaws_endpoint_b1.FnLookupSwap': WHATEVER THE INPUT: true; the input reads as it did. -/
def fnLookupSwapSpec : ChangeSpec := { name := "fnLookupSwap", fn := fun _ => fun
  | [d1, d2, d3, d4, d5, d6] => { results := [.lit (.bool true)], args := [d1, d2, d3, d4, d5, d6] }
  | _ => none }
def fnLookupSwapRow : OpenClaim := { program := "qxb6605867a", sum := "872d34c76dbf4ae31ce8c7780184bea917d1d4f3e5e5b611a018e7b1ae2e5aeb", func := "example.com/pnyx/pnyx/zzlaws_endpoint_b1.FnLookupSwap", spec := "fnLookupSwap", maps := true, apart := false }
def FnLookupSwapSaid : Prop := fnLookupSwapRow.holds Try.pinned (OpenSpec.ofChange fnLookupSwapSpec)

/-- ITS FALSE NEIGHBOUR: 'it returns false'. Refute it at one input. -/
def fnLookupSwapWrong : ChangeSpec := { name := "fnLookupSwap", fn := fun _ => fun
  | [d1, d2, d3, d4, d5, d6] => { results := [.lit (.bool false)], args := [d1, d2, d3, d4, d5, d6] }
  | _ => none }
def FnLookupSwapWrongFalsely : Prop := fnLookupSwapRow.holds Try.pinned (OpenSpec.ofChange fnLookupSwapWrong)

end Rows
end Go.Proofs.Qxb6605867a
