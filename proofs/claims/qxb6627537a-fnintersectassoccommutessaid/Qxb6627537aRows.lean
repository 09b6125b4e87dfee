/-
  No cell of these rows narrows 'for every input' (looked for: loops, veiled, ifaces, maps, wideKeys, modest, calm, conditions, laid).
  DERIVED. THE GIVEN ROWS OF THIS SEAT. 2 by the template 'for every input the law returns true; each argument reads behind the call as it read before'; 0 by the template 'total and deterministic' (their statements: Qxb6627537aTotals.lean).
  GIVEN WITH THE SEED: the statements are not yours to turn. If you find one false, say at which input.
  Laid BY PROGRAM, IN A SANDBOX (cutbox-rows.mjs): the forced cells as the released guide's own fill.sh prints them over the translation 7b026921818e3c85… (all of the seat's roots in one cut). By AI agents, Wed Nov 11 2026. No macro, syntax, notation, axiom, sorry.
-/
import Derived.Test.Qxb6627537aChecked
import GoSem.Claim
import GoSem.ClaimJoined
import GoSem.ClaimMapViews
import Derived.JoinedTies
import Derived.KernelRfl
namespace Go.Proofs.Qxb6627537a
/- THE CELL 'sum', in the pinned program and in every row, IS THE sha256 OF THE DUMP (.gsa) THAT Qxb6627537aProg.lean LOADS. Nothing in Lean hashes anything: it is a label: what it is worth is what the hold of that sum in a sandbox is worth. -/
noncomputable def Try.pinned : Pinned := { name := "qxb6627537a", sum := "7b026921818e3c85b94c6bc73cce463e9b766cbda45746e4dd1d350852d2850e", checked := Try.checked }
namespace Rows
def none {H : Type} : Left H := { results := [], args := [] }

/-- 'zzlaws_cpuset_b1.FnIntersectIsIdwiseAnd': WHATEVER THE INPUT: true; the input reads as it did. -/
def fnIntersectIsIdwiseAndSpec : ChangeSpec := { name := "fnIntersectIsIdwiseAnd", fn := fun _ => fun
  | [d1, d2] => { results := [.lit (.bool true)], args := [d1, d2] }
  | _ => none }
def fnIntersectIsIdwiseAndRow : OpenClaim := { program := "qxb6627537a", sum := "7b026921818e3c85b94c6bc73cce463e9b766cbda45746e4dd1d350852d2850e", func := "example.com/numaloom/numaloom/zzlaws_cpuset_b1.FnIntersectIsIdwiseAnd", spec := "fnIntersectIsIdwiseAnd", apart := false }
def FnIntersectIsIdwiseAndSaid : Prop := fnIntersectIsIdwiseAndRow.holds Try.pinned (OpenSpec.ofChange fnIntersectIsIdwiseAndSpec)

/-- ITS FALSE NEIGHBOUR: 'it returns false'. Refute it at one input. -/
def fnIntersectIsIdwiseAndWrong : ChangeSpec := { name := "fnIntersectIsIdwiseAnd", fn := fun _ => fun
  | [d1, d2] => { results := [.lit (.bool false)], args := [d1, d2] }
  | _ => none }
def FnIntersectIsIdwiseAndWrongFalsely : Prop := fnIntersectIsIdwiseAndRow.holds Try.pinned (OpenSpec.ofChange fnIntersectIsIdwiseAndWrong)

/-- 'zzlaws_cpuset_b1.FnIntersectAssocCommutes': WHATEVER THE INPUT: true; the input reads as it did. -/
def fnIntersectAssocCommutesSpec : ChangeSpec := { name := "fnIntersectAssocCommutes", fn := fun _ => fun
  | [d1, d2, d3] => { results := [.lit (.bool true)], args := [d1, d2, d3] }
  | _ => none }
def fnIntersectAssocCommutesRow : OpenClaim := { program := "qxb6627537a", sum := "7b026921818e3c85b94c6bc73cce463e9b766cbda45746e4dd1d350852d2850e", func := "example.com/numaloom/numaloom/zzlaws_cpuset_b1.FnIntersectAssocCommutes", spec := "fnIntersectAssocCommutes", apart := false }
def FnIntersectAssocCommutesSaid : Prop := fnIntersectAssocCommutesRow.holds Try.pinned (OpenSpec.ofChange fnIntersectAssocCommutesSpec)

/-- ITS FALSE NEIGHBOUR: 'it returns false'. Refute it at one input. -/
def fnIntersectAssocCommutesWrong : ChangeSpec := { name := "fnIntersectAssocCommutes", fn := fun _ => fun
  | [d1, d2, d3] => { results := [.lit (.bool false)], args := [d1, d2, d3] }
  | _ => none }
def FnIntersectAssocCommutesWrongFalsely : Prop := fnIntersectAssocCommutesRow.holds Try.pinned (OpenSpec.ofChange fnIntersectAssocCommutesWrong)

end Rows
end Go.Proofs.Qxb6627537a
