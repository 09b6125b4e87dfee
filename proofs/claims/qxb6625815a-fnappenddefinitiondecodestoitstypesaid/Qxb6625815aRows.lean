/-
  No cell of these rows narrows 'for every input' (looked for: loops, veiled, ifaces, maps, wideKeys, modest, calm, conditions, laid).
  DERIVED. THE GIVEN ROWS OF THIS SEAT. 2 by the template 'for every input the law returns true; each argument reads behind the call as it read before'; 0 by the template 'total and deterministic' (their statements: Qxb6625815aTotals.lean).
  GIVEN WITH THE SEED: the statements are not yours to turn. If you find one false, say at which input.
  Laid BY PROGRAM, IN A SANDBOX (cutbox-rows.mjs): the forced cells as the released guide's own fill.sh prints them over the translation 9b75d443fb1764d0… (all of the seat's roots in one cut). By AI agents, Wed Nov 11 2026. No macro, syntax, notation, axiom, sorry.
-/
import Derived.Test.Qxb6625815aChecked
import GoSem.Claim
import GoSem.ClaimJoined
import GoSem.ClaimMapViews
import Derived.JoinedTies
import Derived.KernelRfl
namespace Go.Proofs.Qxb6625815a
/- THE CELL 'sum', in the pinned program and in every row, IS THE sha256 OF THE DUMP (.gsa) THAT Qxb6625815aProg.lean LOADS. Nothing in Lean hashes anything: it is a label: what it is worth is what the hold of that sum in a sandbox is worth. -/
noncomputable def Try.pinned : Pinned := { name := "qxb6625815a", sum := "9b75d443fb1764d0a2f22b2d47f068c881566eca2eb4a50dbb7bf55fab6792c2", checked := Try.checked }
namespace Rows
def none {H : Type} : Left H := { results := [], args := [] }

/-- 'zzlaws_internal_wire_b1.FnAppendDefinitionDecodesToItsType': WHATEVER THE INPUT: true; the input reads as it did. -/
def fnAppendDefinitionDecodesToItsTypeSpec : ChangeSpec := { name := "fnAppendDefinitionDecodesToItsType", fn := fun _ => fun
  | [d1, d2] => { results := [.lit (.bool true)], args := [d1, d2] }
  | _ => none }
def fnAppendDefinitionDecodesToItsTypeRow : OpenClaim := { program := "qxb6625815a", sum := "9b75d443fb1764d0a2f22b2d47f068c881566eca2eb4a50dbb7bf55fab6792c2", func := "example.com/bindstream/bindstream/zzlaws_internal_wire_b1.FnAppendDefinitionDecodesToItsType", spec := "fnAppendDefinitionDecodesToItsType", named := ["encoding/binary.BigEndian"], apart := false }
def FnAppendDefinitionDecodesToItsTypeSaid : Prop := fnAppendDefinitionDecodesToItsTypeRow.holds Try.pinned (OpenSpec.ofChange fnAppendDefinitionDecodesToItsTypeSpec)

/-- ITS FALSE NEIGHBOUR: 'it returns false'. Refute it at one input. -/
def fnAppendDefinitionDecodesToItsTypeWrong : ChangeSpec := { name := "fnAppendDefinitionDecodesToItsType", fn := fun _ => fun
  | [d1, d2] => { results := [.lit (.bool false)], args := [d1, d2] }
  | _ => none }
def FnAppendDefinitionDecodesToItsTypeWrongFalsely : Prop := fnAppendDefinitionDecodesToItsTypeRow.holds Try.pinned (OpenSpec.ofChange fnAppendDefinitionDecodesToItsTypeWrong)

/-- 'zzlaws_internal_wire_b1.FnAppendDefinitionAppendsAndTellsTypesApart': WHATEVER THE INPUT: true; the input reads as it did. -/
def fnAppendDefinitionAppendsAndTellsTypesApartSpec : ChangeSpec := { name := "fnAppendDefinitionAppendsAndTellsTypesApart", fn := fun _ => fun
  | [d1, d2, d3] => { results := [.lit (.bool true)], args := [d1, d2, d3] }
  | _ => none }
def fnAppendDefinitionAppendsAndTellsTypesApartRow : OpenClaim := { program := "qxb6625815a", sum := "9b75d443fb1764d0a2f22b2d47f068c881566eca2eb4a50dbb7bf55fab6792c2", func := "example.com/bindstream/bindstream/zzlaws_internal_wire_b1.FnAppendDefinitionAppendsAndTellsTypesApart", spec := "fnAppendDefinitionAppendsAndTellsTypesApart", named := ["encoding/binary.BigEndian"], apart := false }
def FnAppendDefinitionAppendsAndTellsTypesApartSaid : Prop := fnAppendDefinitionAppendsAndTellsTypesApartRow.holds Try.pinned (OpenSpec.ofChange fnAppendDefinitionAppendsAndTellsTypesApartSpec)

/-- ITS FALSE NEIGHBOUR: 'it returns false'. Refute it at one input. -/
def fnAppendDefinitionAppendsAndTellsTypesApartWrong : ChangeSpec := { name := "fnAppendDefinitionAppendsAndTellsTypesApart", fn := fun _ => fun
  | [d1, d2, d3] => { results := [.lit (.bool false)], args := [d1, d2, d3] }
  | _ => none }
def FnAppendDefinitionAppendsAndTellsTypesApartWrongFalsely : Prop := fnAppendDefinitionAppendsAndTellsTypesApartRow.holds Try.pinned (OpenSpec.ofChange fnAppendDefinitionAppendsAndTellsTypesApartWrong)

end Rows
end Go.Proofs.Qxb6625815a
