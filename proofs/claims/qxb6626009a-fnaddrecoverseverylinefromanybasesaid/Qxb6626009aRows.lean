/-
  No cell of these rows narrows 'for every input' (looked for: loops, veiled, ifaces, maps, wideKeys, modest, calm, conditions, laid).
  DERIVED. THE GIVEN ROWS OF THIS SEAT. 2 by the template 'for every input the law returns true; each argument reads behind the call as it read before'; 0 by the template 'total and deterministic' (their statements: Qxb6626009aTotals.lean).
  GIVEN WITH THE SEED: the statements are not yours to turn. If you find one false, say at which input.
  Laid BY PROGRAM, IN A SANDBOX (cutbox-rows.mjs): the forced cells as the released guide's own fill.sh prints them over the translation 579a9deaaac9baaf… (all of the seat's roots in one cut). By AI agents, Wed Nov 11 2026. No macro, syntax, notation, axiom, sorry.
-/
import Derived.Test.Qxb6626009aChecked
import GoSem.Claim
import GoSem.ClaimJoined
import GoSem.ClaimMapViews
import Derived.JoinedTies
import Derived.KernelRfl
namespace Go.Proofs.Qxb6626009a
/- THE CELL 'sum', in the pinned program and in every row, IS THE sha256 OF THE DUMP (.gsa) THAT Qxb6626009aProg.lean LOADS. Nothing in Lean hashes anything: it is a label: what it is worth is what the hold of that sum in a sandbox is worth. -/
noncomputable def Try.pinned : Pinned := { name := "qxb6626009a", sum := "579a9deaaac9baafe6b1d002843c19d4657647cefe4743b60982e4c38fe472cf", checked := Try.checked }
namespace Rows
def none {H : Type} : Left H := { results := [], args := [] }

/-- 'zzlaws_internal_api_b1.FnAddBuildsRunsOfFollowingLines': WHATEVER THE INPUT: true; the input reads as it did. -/
def fnAddBuildsRunsOfFollowingLinesSpec : ChangeSpec := { name := "fnAddBuildsRunsOfFollowingLines", fn := fun _ => fun
  | [d] => { results := [.lit (.bool true)], args := [d] }
  | _ => none }
def fnAddBuildsRunsOfFollowingLinesRow : OpenClaim := { program := "qxb6626009a", sum := "579a9deaaac9baafe6b1d002843c19d4657647cefe4743b60982e4c38fe472cf", func := "example.com/lokallag/lokallag/zzlaws_internal_api_b1.FnAddBuildsRunsOfFollowingLines", spec := "fnAddBuildsRunsOfFollowingLines", apart := false }
def FnAddBuildsRunsOfFollowingLinesSaid : Prop := fnAddBuildsRunsOfFollowingLinesRow.holds Try.pinned (OpenSpec.ofChange fnAddBuildsRunsOfFollowingLinesSpec)

/-- ITS FALSE NEIGHBOUR: 'it returns false'. Refute it at one input. -/
def fnAddBuildsRunsOfFollowingLinesWrong : ChangeSpec := { name := "fnAddBuildsRunsOfFollowingLines", fn := fun _ => fun
  | [d] => { results := [.lit (.bool false)], args := [d] }
  | _ => none }
def FnAddBuildsRunsOfFollowingLinesWrongFalsely : Prop := fnAddBuildsRunsOfFollowingLinesRow.holds Try.pinned (OpenSpec.ofChange fnAddBuildsRunsOfFollowingLinesWrong)

/-- 'zzlaws_internal_api_b1.FnAddRecoversEveryLineFromAnyBase': WHATEVER THE INPUT: true; the input reads as it did. -/
def fnAddRecoversEveryLineFromAnyBaseSpec : ChangeSpec := { name := "fnAddRecoversEveryLineFromAnyBase", fn := fun _ => fun
  | [d1, d2] => { results := [.lit (.bool true)], args := [d1, d2] }
  | _ => none }
def fnAddRecoversEveryLineFromAnyBaseRow : OpenClaim := { program := "qxb6626009a", sum := "579a9deaaac9baafe6b1d002843c19d4657647cefe4743b60982e4c38fe472cf", func := "example.com/lokallag/lokallag/zzlaws_internal_api_b1.FnAddRecoversEveryLineFromAnyBase", spec := "fnAddRecoversEveryLineFromAnyBase", apart := false }
def FnAddRecoversEveryLineFromAnyBaseSaid : Prop := fnAddRecoversEveryLineFromAnyBaseRow.holds Try.pinned (OpenSpec.ofChange fnAddRecoversEveryLineFromAnyBaseSpec)

/-- ITS FALSE NEIGHBOUR: 'it returns false'. Refute it at one input. -/
def fnAddRecoversEveryLineFromAnyBaseWrong : ChangeSpec := { name := "fnAddRecoversEveryLineFromAnyBase", fn := fun _ => fun
  | [d1, d2] => { results := [.lit (.bool false)], args := [d1, d2] }
  | _ => none }
def FnAddRecoversEveryLineFromAnyBaseWrongFalsely : Prop := fnAddRecoversEveryLineFromAnyBaseRow.holds Try.pinned (OpenSpec.ofChange fnAddRecoversEveryLineFromAnyBaseWrong)

end Rows
end Go.Proofs.Qxb6626009a
