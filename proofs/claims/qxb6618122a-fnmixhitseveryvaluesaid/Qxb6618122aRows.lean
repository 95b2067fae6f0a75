/-
  No cell of these rows narrows 'for every input' (looked for: loops, veiled, ifaces, maps, wideKeys, modest, calm, conditions, laid).
  DERIVED. THE GIVEN ROWS OF THIS SEAT. 2 by the template 'for every input the law returns true; each argument reads behind the call as it read before'; 0 by the template 'total and deterministic' (their statements: Qxb6618122aTotals.lean).
  GIVEN WITH THE SEED: the statements are not yours to turn. If you find one false, say at which input.
  Laid BY PROGRAM, IN A SANDBOX (cutbox-rows.mjs): the forced cells as the released guide's own fill.sh prints them over the translation f66c1268271a0c76… (all of the seat's roots in one cut). By AI agents, Wed Nov 11 2026. No macro, syntax, notation, axiom, sorry.
-/
import Derived.Test.Qxb6618122aChecked
import GoSem.Claim
import GoSem.ClaimJoined
import GoSem.ClaimMapViews
import Derived.JoinedTies
import Derived.KernelRfl
namespace Go.Proofs.Qxb6618122a
/- THE CELL 'sum', in the pinned program and in every row, IS THE sha256 OF THE DUMP (.gsa) THAT Qxb6618122aProg.lean LOADS. Nothing in Lean hashes anything: it is a label: what it is worth is what the hold of that sum in a sandbox is worth. -/
noncomputable def Try.pinned : Pinned := { name := "qxb6618122a", sum := "f66c1268271a0c76185858946dce3fa89f6a284f0d16f588a7fc792437971ea3", checked := Try.checked }
namespace Rows
def none {H : Type} : Left H := { results := [], args := [] }

/-- 'zzlaws_internal_assign_b1.FnMixUnmixRoundTrip': WHATEVER THE INPUT: true; the input reads as it did. -/
def fnMixUnmixRoundTripSpec : ChangeSpec := { name := "fnMixUnmixRoundTrip", fn := fun _ => fun
  | [d] => { results := [.lit (.bool true)], args := [d] }
  | _ => none }
def fnMixUnmixRoundTripRow : OpenClaim := { program := "qxb6618122a", sum := "f66c1268271a0c76185858946dce3fa89f6a284f0d16f588a7fc792437971ea3", func := "example.com/pekod/pekod/zzlaws_internal_assign_b1.FnMixUnmixRoundTrip", spec := "fnMixUnmixRoundTrip", apart := false }
def FnMixUnmixRoundTripSaid : Prop := fnMixUnmixRoundTripRow.holds Try.pinned (OpenSpec.ofChange fnMixUnmixRoundTripSpec)

/-- ITS FALSE NEIGHBOUR: 'it returns false'. Refute it at one input. -/
def fnMixUnmixRoundTripWrong : ChangeSpec := { name := "fnMixUnmixRoundTrip", fn := fun _ => fun
  | [d] => { results := [.lit (.bool false)], args := [d] }
  | _ => none }
def FnMixUnmixRoundTripWrongFalsely : Prop := fnMixUnmixRoundTripRow.holds Try.pinned (OpenSpec.ofChange fnMixUnmixRoundTripWrong)

/-- 'zzlaws_internal_assign_b1.FnMixHitsEveryValue': WHATEVER THE INPUT: true; the input reads as it did. -/
def fnMixHitsEveryValueSpec : ChangeSpec := { name := "fnMixHitsEveryValue", fn := fun _ => fun
  | [d] => { results := [.lit (.bool true)], args := [d] }
  | _ => none }
def fnMixHitsEveryValueRow : OpenClaim := { program := "qxb6618122a", sum := "f66c1268271a0c76185858946dce3fa89f6a284f0d16f588a7fc792437971ea3", func := "example.com/pekod/pekod/zzlaws_internal_assign_b1.FnMixHitsEveryValue", spec := "fnMixHitsEveryValue", apart := false }
def FnMixHitsEveryValueSaid : Prop := fnMixHitsEveryValueRow.holds Try.pinned (OpenSpec.ofChange fnMixHitsEveryValueSpec)

/-- ITS FALSE NEIGHBOUR: 'it returns false'. Refute it at one input. -/
def fnMixHitsEveryValueWrong : ChangeSpec := { name := "fnMixHitsEveryValue", fn := fun _ => fun
  | [d] => { results := [.lit (.bool false)], args := [d] }
  | _ => none }
def FnMixHitsEveryValueWrongFalsely : Prop := fnMixHitsEveryValueRow.holds Try.pinned (OpenSpec.ofChange fnMixHitsEveryValueWrong)

end Rows
end Go.Proofs.Qxb6618122a
