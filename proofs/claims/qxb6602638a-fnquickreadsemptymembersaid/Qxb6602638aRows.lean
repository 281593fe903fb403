/-
  No cell of these rows narrows 'for every input' (looked for: loops, veiled, ifaces, maps, wideKeys, modest, calm, conditions, laid).
  DERIVED. THE GIVEN ROWS OF THIS SEAT. 4 by the template 'for every input the law returns true; each argument reads behind the call as it read before'; 0 by the template 'total and deterministic' (their statements: Qxb6602638aTotals.lean).
  GIVEN WITH THE SEED: the statements are not yours to turn. If you find one false, say at which input.
  Laid BY PROGRAM, IN A SANDBOX (cutbox-rows.mjs): the forced cells as the released guide's own fill.sh prints them over the translation 9f707431ad3dbc64… (all of the seat's roots in one cut). By AI agents, Wed Nov 11 2026. No macro, syntax, notation, axiom, sorry.
-/
import Derived.Test.Qxb6602638aChecked
import GoSem.Claim
import GoSem.ClaimJoined
import GoSem.ClaimMapViews
import Derived.JoinedTies
import Derived.KernelRfl
namespace Go.Proofs.Qxb6602638a
/- THE CELL 'sum', in the pinned program and in every row, IS THE sha256 OF THE DUMP (.gsa) THAT Qxb6602638aProg.lean LOADS. Nothing in Lean hashes anything: it is a label: what it is worth is what the hold of that sum in a sandbox is worth. -/
noncomputable def Try.pinned : Pinned := { name := "qxb6602638a", sum := "9f707431ad3dbc649cc8fc35394b92b7998b63bfa47a24134add2bce5335e359", checked := Try.checked }
namespace Rows
def none {H : Type} : Left H := { results := [], args := [] }

/-- 'zzlaws_jsonstream_b1.FnFinishIdempotent': WHATEVER THE INPUT: true; the input reads as it did. -/
def fnFinishIdempotentSpec : ChangeSpec := { name := "fnFinishIdempotent", fn := fun _ => fun
  | [d1, d2, d3, d4, d5, d6, d7, d8] => { results := [.lit (.bool true)], args := [d1, d2, d3, d4, d5, d6, d7, d8] }
  | _ => none }
def fnFinishIdempotentRow : OpenClaim := { program := "qxb6602638a", sum := "9f707431ad3dbc649cc8fc35394b92b7998b63bfa47a24134add2bce5335e359", func := "example.com/stakemark/stakemark/zzlaws_jsonstream_b1.FnFinishIdempotent", spec := "fnFinishIdempotent", apart := false }
def FnFinishIdempotentSaid : Prop := fnFinishIdempotentRow.holds Try.pinned (OpenSpec.ofChange fnFinishIdempotentSpec)

/-- ITS FALSE NEIGHBOUR: 'it returns false'. Refute it at one input. -/
def fnFinishIdempotentWrong : ChangeSpec := { name := "fnFinishIdempotent", fn := fun _ => fun
  | [d1, d2, d3, d4, d5, d6, d7, d8] => { results := [.lit (.bool false)], args := [d1, d2, d3, d4, d5, d6, d7, d8] }
  | _ => none }
def FnFinishIdempotentWrongFalsely : Prop := fnFinishIdempotentRow.holds Try.pinned (OpenSpec.ofChange fnFinishIdempotentWrong)

/-- 'zzlaws_jsonstream_b1.FnIntegerForgetsPriorState': WHATEVER THE INPUT: true; the input reads as it did. -/
def fnIntegerForgetsPriorStateSpec : ChangeSpec := { name := "fnIntegerForgetsPriorState", fn := fun _ => fun
  | [d1, d2, d3, d4, d5, d6, d7, d8, d9, d10, d11] => { results := [.lit (.bool true)], args := [d1, d2, d3, d4, d5, d6, d7, d8, d9, d10, d11] }
  | _ => none }
def fnIntegerForgetsPriorStateRow : OpenClaim := { program := "qxb6602638a", sum := "9f707431ad3dbc649cc8fc35394b92b7998b63bfa47a24134add2bce5335e359", func := "example.com/stakemark/stakemark/zzlaws_jsonstream_b1.FnIntegerForgetsPriorState", spec := "fnIntegerForgetsPriorState", apart := false }
def FnIntegerForgetsPriorStateSaid : Prop := fnIntegerForgetsPriorStateRow.holds Try.pinned (OpenSpec.ofChange fnIntegerForgetsPriorStateSpec)

/-- ITS FALSE NEIGHBOUR: 'it returns false'. Refute it at one input. -/
def fnIntegerForgetsPriorStateWrong : ChangeSpec := { name := "fnIntegerForgetsPriorState", fn := fun _ => fun
  | [d1, d2, d3, d4, d5, d6, d7, d8, d9, d10, d11] => { results := [.lit (.bool false)], args := [d1, d2, d3, d4, d5, d6, d7, d8, d9, d10, d11] }
  | _ => none }
def FnIntegerForgetsPriorStateWrongFalsely : Prop := fnIntegerForgetsPriorStateRow.holds Try.pinned (OpenSpec.ofChange fnIntegerForgetsPriorStateWrong)

/-- 'zzlaws_jsonstream_b1.FnIntegerThenFinish': WHATEVER THE INPUT: true; the input reads as it did. -/
def fnIntegerThenFinishSpec : ChangeSpec := { name := "fnIntegerThenFinish", fn := fun _ => fun
  | [d1, d2, d3, d4, d5, d6, d7, d8, d9] => { results := [.lit (.bool true)], args := [d1, d2, d3, d4, d5, d6, d7, d8, d9] }
  | _ => none }
def fnIntegerThenFinishRow : OpenClaim := { program := "qxb6602638a", sum := "9f707431ad3dbc649cc8fc35394b92b7998b63bfa47a24134add2bce5335e359", func := "example.com/stakemark/stakemark/zzlaws_jsonstream_b1.FnIntegerThenFinish", spec := "fnIntegerThenFinish", apart := false }
def FnIntegerThenFinishSaid : Prop := fnIntegerThenFinishRow.holds Try.pinned (OpenSpec.ofChange fnIntegerThenFinishSpec)

/-- ITS FALSE NEIGHBOUR: 'it returns false'. Refute it at one input. -/
def fnIntegerThenFinishWrong : ChangeSpec := { name := "fnIntegerThenFinish", fn := fun _ => fun
  | [d1, d2, d3, d4, d5, d6, d7, d8, d9] => { results := [.lit (.bool false)], args := [d1, d2, d3, d4, d5, d6, d7, d8, d9] }
  | _ => none }
def FnIntegerThenFinishWrongFalsely : Prop := fnIntegerThenFinishRow.holds Try.pinned (OpenSpec.ofChange fnIntegerThenFinishWrong)

/-- 'zzlaws_jsonstream_b1.FnQuickReadsEmptyMember': WHATEVER THE INPUT: true; the input reads as it did. -/
def fnQuickReadsEmptyMemberSpec : ChangeSpec := { name := "fnQuickReadsEmptyMember", fn := fun _ => fun
  | [d1, d2, d3, d4, d5, d6] => { results := [.lit (.bool true)], args := [d1, d2, d3, d4, d5, d6] }
  | _ => none }
def fnQuickReadsEmptyMemberRow : OpenClaim := { program := "qxb6602638a", sum := "9f707431ad3dbc649cc8fc35394b92b7998b63bfa47a24134add2bce5335e359", func := "example.com/stakemark/stakemark/zzlaws_jsonstream_b1.FnQuickReadsEmptyMember", spec := "fnQuickReadsEmptyMember", apart := false }
def FnQuickReadsEmptyMemberSaid : Prop := fnQuickReadsEmptyMemberRow.holds Try.pinned (OpenSpec.ofChange fnQuickReadsEmptyMemberSpec)

/-- ITS FALSE NEIGHBOUR: 'it returns false'. Refute it at one input. -/
def fnQuickReadsEmptyMemberWrong : ChangeSpec := { name := "fnQuickReadsEmptyMember", fn := fun _ => fun
  | [d1, d2, d3, d4, d5, d6] => { results := [.lit (.bool false)], args := [d1, d2, d3, d4, d5, d6] }
  | _ => none }
def FnQuickReadsEmptyMemberWrongFalsely : Prop := fnQuickReadsEmptyMemberRow.holds Try.pinned (OpenSpec.ofChange fnQuickReadsEmptyMemberWrong)

end Rows
end Go.Proofs.Qxb6602638a
