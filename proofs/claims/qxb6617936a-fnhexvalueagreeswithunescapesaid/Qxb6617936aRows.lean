/-
  No cell of these rows narrows 'for every input' (looked for: loops, veiled, ifaces, maps, wideKeys, modest, calm, conditions, laid).
  DERIVED. THE GIVEN ROWS OF THIS SEAT. 2 by the template 'for every input the law returns true; each argument reads behind the call as it read before'; 0 by the template 'total and deterministic' (their statements: Qxb6617936aTotals.lean).
  GIVEN WITH THE SEED: the statements are not yours to turn. If you find one false, say at which input.
  Laid BY PROGRAM, IN A SANDBOX (cutbox-rows.mjs): the forced cells as the released guide's own fill.sh prints them over the translation abfeedb76b861169… (all of the seat's roots in one cut). By AI agents, Wed Nov 11 2026. No macro, syntax, notation, axiom, sorry.
-/
import Derived.Test.Qxb6617936aChecked
import GoSem.Claim
import GoSem.ClaimJoined
import GoSem.ClaimMapViews
import Derived.JoinedTies
import Derived.KernelRfl
namespace Go.Proofs.Qxb6617936a
/- THE CELL 'sum', in the pinned program and in every row, IS THE sha256 OF THE DUMP (.gsa) THAT Qxb6617936aProg.lean LOADS. Nothing in Lean hashes anything: it is a label: what it is worth is what the hold of that sum in a sandbox is worth. -/
noncomputable def Try.pinned : Pinned := { name := "qxb6617936a", sum := "abfeedb76b8611693bc031da0798316251f11c6cb28cbad236524ab673d4591f", checked := Try.checked }
namespace Rows
def none {H : Type} : Left H := { results := [], args := [] }

/-- 'zzlaws_internal_copydata_b1.FnHexValueAgreesWithUnescape': WHATEVER THE INPUT: true; the input reads as it did. -/
def fnHexValueAgreesWithUnescapeSpec : ChangeSpec := { name := "fnHexValueAgreesWithUnescape", fn := fun _ => fun
  | [d] => { results := [.lit (.bool true)], args := [d] }
  | _ => none }
def fnHexValueAgreesWithUnescapeRow : OpenClaim := { program := "qxb6617936a", sum := "abfeedb76b8611693bc031da0798316251f11c6cb28cbad236524ab673d4591f", func := "example.com/archipel/archipel/zzlaws_internal_copydata_b1.FnHexValueAgreesWithUnescape", spec := "fnHexValueAgreesWithUnescape", apart := false }
def FnHexValueAgreesWithUnescapeSaid : Prop := fnHexValueAgreesWithUnescapeRow.holds Try.pinned (OpenSpec.ofChange fnHexValueAgreesWithUnescapeSpec)

/-- ITS FALSE NEIGHBOUR: 'it returns false'. Refute it at one input. -/
def fnHexValueAgreesWithUnescapeWrong : ChangeSpec := { name := "fnHexValueAgreesWithUnescape", fn := fun _ => fun
  | [d] => { results := [.lit (.bool false)], args := [d] }
  | _ => none }
def FnHexValueAgreesWithUnescapeWrongFalsely : Prop := fnHexValueAgreesWithUnescapeRow.holds Try.pinned (OpenSpec.ofChange fnHexValueAgreesWithUnescapeWrong)

/-- 'zzlaws_internal_copydata_b1.FnUnescapeHexAgreesWithHexValue': WHATEVER THE INPUT: true; the input reads as it did. -/
def fnUnescapeHexAgreesWithHexValueSpec : ChangeSpec := { name := "fnUnescapeHexAgreesWithHexValue", fn := fun _ => fun
  | [d] => { results := [.lit (.bool true)], args := [d] }
  | _ => none }
def fnUnescapeHexAgreesWithHexValueRow : OpenClaim := { program := "qxb6617936a", sum := "abfeedb76b8611693bc031da0798316251f11c6cb28cbad236524ab673d4591f", func := "example.com/archipel/archipel/zzlaws_internal_copydata_b1.FnUnescapeHexAgreesWithHexValue", spec := "fnUnescapeHexAgreesWithHexValue", apart := false }
def FnUnescapeHexAgreesWithHexValueSaid : Prop := fnUnescapeHexAgreesWithHexValueRow.holds Try.pinned (OpenSpec.ofChange fnUnescapeHexAgreesWithHexValueSpec)

/-- ITS FALSE NEIGHBOUR: 'it returns false'. Refute it at one input. -/
def fnUnescapeHexAgreesWithHexValueWrong : ChangeSpec := { name := "fnUnescapeHexAgreesWithHexValue", fn := fun _ => fun
  | [d] => { results := [.lit (.bool false)], args := [d] }
  | _ => none }
def FnUnescapeHexAgreesWithHexValueWrongFalsely : Prop := fnUnescapeHexAgreesWithHexValueRow.holds Try.pinned (OpenSpec.ofChange fnUnescapeHexAgreesWithHexValueWrong)

end Rows
end Go.Proofs.Qxb6617936a
