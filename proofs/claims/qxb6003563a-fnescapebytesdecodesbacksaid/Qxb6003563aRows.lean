/-
  No cell of these rows narrows 'for every input' (looked for: loops, veiled, ifaces, maps, wideKeys, modest, calm, conditions, laid).
  DERIVED. THE GIVEN ROWS OF THIS SEAT. 3 by the template 'for every input the law returns true; each argument reads behind the call as it read before'; 0 by the template 'total and deterministic' (their statements: Qxb6003563aTotals.lean).
  GIVEN WITH THE SEED: the statements are not yours to turn. If you find one false, say at which input.
  Laid BY PROGRAM, IN A SANDBOX (cutbox-rows.mjs): the forced cells as the released guide's own fill.sh prints them over the translation 477d2781b9470ff8… (all of the seat's roots in one cut). By AI agents, Wed Nov 11 2026. No macro, syntax, notation, axiom, sorry.
-/
import Derived.Test.Qxb6003563aChecked
import GoSem.Claim
import GoSem.ClaimJoined
import GoSem.ClaimMapViews
import Derived.JoinedTies
import Derived.KernelRfl
namespace Go.Proofs.Qxb6003563a
/- THE CELL 'sum', in the pinned program and in every row, IS THE sha256 OF THE DUMP (.gsa) THAT Qxb6003563aProg.lean LOADS. Nothing in Lean hashes anything: it is a label: what it is worth is what the hold of that sum in a sandbox is worth. -/
noncomputable def Try.pinned : Pinned := { name := "qxb6003563a", sum := "477d2781b9470ff865f40def145bb6553a9b2c44fa8fae174dcda3a32edc988f", checked := Try.checked }
namespace Rows
def none {H : Type} : Left H := { results := [], args := [] }

/-- 'zzlaws_internal_tracker_b2.FnEscapeBytesDecodesBack': WHATEVER THE INPUT: true; the input reads as it did. -/
def fnEscapeBytesDecodesBackSpec : ChangeSpec := { name := "fnEscapeBytesDecodesBack", fn := fun _ => fun
  | [d] => { results := [.lit (.bool true)], args := [d] }
  | _ => none }
def fnEscapeBytesDecodesBackRow : OpenClaim := { program := "qxb6003563a", sum := "477d2781b9470ff865f40def145bb6553a9b2c44fa8fae174dcda3a32edc988f", func := "example.com/swarmwright/swarmwright/zzlaws_internal_tracker_b2.FnEscapeBytesDecodesBack", spec := "fnEscapeBytesDecodesBack", inPlace := ["internal/abi.NoEscape"], apart := false }
def FnEscapeBytesDecodesBackSaid : Prop := fnEscapeBytesDecodesBackRow.holds Try.pinned (OpenSpec.ofChange fnEscapeBytesDecodesBackSpec)

/-- ITS FALSE NEIGHBOUR: 'it returns false'. Refute it at one input. -/
def fnEscapeBytesDecodesBackWrong : ChangeSpec := { name := "fnEscapeBytesDecodesBack", fn := fun _ => fun
  | [d] => { results := [.lit (.bool false)], args := [d] }
  | _ => none }
def FnEscapeBytesDecodesBackWrongFalsely : Prop := fnEscapeBytesDecodesBackRow.holds Try.pinned (OpenSpec.ofChange fnEscapeBytesDecodesBackWrong)

/-- 'zzlaws_internal_tracker_b2.FnEscapeBytesConcat': WHATEVER THE INPUT: true; the input reads as it did. -/
def fnEscapeBytesConcatSpec : ChangeSpec := { name := "fnEscapeBytesConcat", fn := fun _ => fun
  | [d1, d2] => { results := [.lit (.bool true)], args := [d1, d2] }
  | _ => none }
def fnEscapeBytesConcatRow : OpenClaim := { program := "qxb6003563a", sum := "477d2781b9470ff865f40def145bb6553a9b2c44fa8fae174dcda3a32edc988f", func := "example.com/swarmwright/swarmwright/zzlaws_internal_tracker_b2.FnEscapeBytesConcat", spec := "fnEscapeBytesConcat", inPlace := ["internal/abi.NoEscape"], apart := false }
def FnEscapeBytesConcatSaid : Prop := fnEscapeBytesConcatRow.holds Try.pinned (OpenSpec.ofChange fnEscapeBytesConcatSpec)

/-- ITS FALSE NEIGHBOUR: 'it returns false'. Refute it at one input. -/
def fnEscapeBytesConcatWrong : ChangeSpec := { name := "fnEscapeBytesConcat", fn := fun _ => fun
  | [d1, d2] => { results := [.lit (.bool false)], args := [d1, d2] }
  | _ => none }
def FnEscapeBytesConcatWrongFalsely : Prop := fnEscapeBytesConcatRow.holds Try.pinned (OpenSpec.ofChange fnEscapeBytesConcatWrong)

/-- 'zzlaws_internal_tracker_b2.FnEscapeBytesUnreservedAlone': WHATEVER THE INPUT: true; the input reads as it did. -/
def fnEscapeBytesUnreservedAloneSpec : ChangeSpec := { name := "fnEscapeBytesUnreservedAlone", fn := fun _ => fun
  | [d] => { results := [.lit (.bool true)], args := [d] }
  | _ => none }
def fnEscapeBytesUnreservedAloneRow : OpenClaim := { program := "qxb6003563a", sum := "477d2781b9470ff865f40def145bb6553a9b2c44fa8fae174dcda3a32edc988f", func := "example.com/swarmwright/swarmwright/zzlaws_internal_tracker_b2.FnEscapeBytesUnreservedAlone", spec := "fnEscapeBytesUnreservedAlone", inPlace := ["internal/abi.NoEscape"], apart := false }
def FnEscapeBytesUnreservedAloneSaid : Prop := fnEscapeBytesUnreservedAloneRow.holds Try.pinned (OpenSpec.ofChange fnEscapeBytesUnreservedAloneSpec)

/-- ITS FALSE NEIGHBOUR: 'it returns false'. Refute it at one input. -/
def fnEscapeBytesUnreservedAloneWrong : ChangeSpec := { name := "fnEscapeBytesUnreservedAlone", fn := fun _ => fun
  | [d] => { results := [.lit (.bool false)], args := [d] }
  | _ => none }
def FnEscapeBytesUnreservedAloneWrongFalsely : Prop := fnEscapeBytesUnreservedAloneRow.holds Try.pinned (OpenSpec.ofChange fnEscapeBytesUnreservedAloneWrong)

end Rows
end Go.Proofs.Qxb6003563a
