/-
  No cell of these rows narrows 'for every input' (looked for: loops, veiled, ifaces, maps, wideKeys, modest, calm, conditions, laid).
  DERIVED. THE GIVEN ROWS OF THIS SEAT. 2 by the template 'for every input the law returns true; each argument reads behind the call as it read before'; 0 by the template 'total and deterministic' (their statements: Qxb6626088aTotals.lean).
  GIVEN WITH THE SEED: the statements are not yours to turn. If you find one false, say at which input.
  Laid BY PROGRAM, IN A SANDBOX (cutbox-rows.mjs): the forced cells as the released guide's own fill.sh prints them over the translation 239a657a09c2e676… (all of the seat's roots in one cut). By AI agents, Wed Nov 11 2026. No macro, syntax, notation, axiom, sorry.
-/
import Derived.Test.Qxb6626088aChecked
import GoSem.Claim
import GoSem.ClaimJoined
import GoSem.ClaimMapViews
import Derived.JoinedTies
import Derived.KernelRfl
namespace Go.Proofs.Qxb6626088a
/- THE CELL 'sum', in the pinned program and in every row, IS THE sha256 OF THE DUMP (.gsa) THAT Qxb6626088aProg.lean LOADS. Nothing in Lean hashes anything: it is a label: what it is worth is what the hold of that sum in a sandbox is worth. -/
noncomputable def Try.pinned : Pinned := { name := "qxb6626088a", sum := "239a657a09c2e676e0117b9579de3b2201071676efc5939125b4034e3939050b", checked := Try.checked }
namespace Rows
def none {H : Type} : Left H := { results := [], args := [] }

/-- 'zzlaws_memstore_b1.FnPushKeepsLineInPushOrder': WHATEVER THE INPUT: true; the input reads as it did. -/
def fnPushKeepsLineInPushOrderSpec : ChangeSpec := { name := "fnPushKeepsLineInPushOrder", fn := fun _ => fun
  | [d] => { results := [.lit (.bool true)], args := [d] }
  | _ => none }
def fnPushKeepsLineInPushOrderRow : OpenClaim := { program := "qxb6626088a", sum := "239a657a09c2e676e0117b9579de3b2201071676efc5939125b4034e3939050b", func := "example.com/onceward/onceward/zzlaws_memstore_b1.FnPushKeepsLineInPushOrder", spec := "fnPushKeepsLineInPushOrder", apart := false }
def FnPushKeepsLineInPushOrderSaid : Prop := fnPushKeepsLineInPushOrderRow.holds Try.pinned (OpenSpec.ofChange fnPushKeepsLineInPushOrderSpec)

/-- ITS FALSE NEIGHBOUR: 'it returns false'. Refute it at one input. -/
def fnPushKeepsLineInPushOrderWrong : ChangeSpec := { name := "fnPushKeepsLineInPushOrder", fn := fun _ => fun
  | [d] => { results := [.lit (.bool false)], args := [d] }
  | _ => none }
def FnPushKeepsLineInPushOrderWrongFalsely : Prop := fnPushKeepsLineInPushOrderRow.holds Try.pinned (OpenSpec.ofChange fnPushKeepsLineInPushOrderWrong)

/-- 'zzlaws_memstore_b1.FnPushAppendsToRingOrder': WHATEVER THE INPUT: true; the input reads as it did. -/
def fnPushAppendsToRingOrderSpec : ChangeSpec := { name := "fnPushAppendsToRingOrder", fn := fun _ => fun
  | [d1, d2, d3] => { results := [.lit (.bool true)], args := [d1, d2, d3] }
  | _ => none }
def fnPushAppendsToRingOrderRow : OpenClaim := { program := "qxb6626088a", sum := "239a657a09c2e676e0117b9579de3b2201071676efc5939125b4034e3939050b", func := "example.com/onceward/onceward/zzlaws_memstore_b1.FnPushAppendsToRingOrder", spec := "fnPushAppendsToRingOrder", apart := false }
def FnPushAppendsToRingOrderSaid : Prop := fnPushAppendsToRingOrderRow.holds Try.pinned (OpenSpec.ofChange fnPushAppendsToRingOrderSpec)

/-- ITS FALSE NEIGHBOUR: 'it returns false'. Refute it at one input. -/
def fnPushAppendsToRingOrderWrong : ChangeSpec := { name := "fnPushAppendsToRingOrder", fn := fun _ => fun
  | [d1, d2, d3] => { results := [.lit (.bool false)], args := [d1, d2, d3] }
  | _ => none }
def FnPushAppendsToRingOrderWrongFalsely : Prop := fnPushAppendsToRingOrderRow.holds Try.pinned (OpenSpec.ofChange fnPushAppendsToRingOrderWrong)

end Rows
end Go.Proofs.Qxb6626088a
