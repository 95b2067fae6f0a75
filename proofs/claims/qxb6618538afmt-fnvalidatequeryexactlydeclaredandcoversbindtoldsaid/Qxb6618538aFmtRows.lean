/-
  No cell of these rows narrows 'for every input' (looked for: loops, veiled, ifaces, maps, wideKeys, modest, calm, conditions, laid).
  DERIVED. THE GIVEN ROWS OF THIS SEAT. 4 by the template 'for every input the law returns true; each argument reads behind the call as it read before'; 0 by the template 'total and deterministic' (their statements: Qxb6618538aFmtTotals.lean).
  GIVEN WITH THE SEED: the statements are not yours to turn. If you find one false, say at which input.
  Laid BY PROGRAM, IN A SANDBOX (cutbox-rows.mjs): the forced cells as the released guide's own fill.sh prints them over the translation 9cb894898c2ce03e… (all of the seat's roots in one cut). By AI agents, Wed Nov 11 2026. No macro, syntax, notation, axiom, sorry.
-/
import Derived.Test.Qxb6618538aFmtChecked
import GoSem.Claim
import GoSem.ClaimJoined
import GoSem.ClaimMapViews
import Derived.JoinedTies
import Derived.KernelRfl
namespace Go.Proofs.Qxb6618538aFmt
/- THE CELL 'sum', in the pinned program and in every row, IS THE sha256 OF THE DUMP (.gsa) THAT Qxb6618538aFmtProg.lean LOADS. Nothing in Lean hashes anything: it is a label: what it is worth is what the hold of that sum in a sandbox is worth. -/
noncomputable def Tryf.pinned : Pinned := { name := "qxb6618538afmt", sum := "9cb894898c2ce03ec3669b27ad7aea47c66593dfb67bc0c39473cb41e9200ca8", checked := Tryf.checked }
namespace Rows
def none {H : Type} : Left H := { results := [], args := [] }

/-- 'zzlaws_root_b1.FnBindAcceptsExactlyTheAllowedForms': WHATEVER THE INPUT: true; the input reads as it did. -/
def fnBindAcceptsExactlyTheAllowedFormsSpec : ChangeSpec := { name := "fnBindAcceptsExactlyTheAllowedForms", fn := fun _ => fun
  | [d1, d2, d3, d4, d5, d6, d7, d8, d9, d10, d11] => { results := [.lit (.bool true)], args := [d1, d2, d3, d4, d5, d6, d7, d8, d9, d10, d11] }
  | _ => none }
def fnBindAcceptsExactlyTheAllowedFormsRow : OpenClaim := { program := "qxb6618538afmt", sum := "9cb894898c2ce03ec3669b27ad7aea47c66593dfb67bc0c39473cb41e9200ca8", func := "example.com/heirloom/heirloom/zzlaws_root_b1.FnBindAcceptsExactlyTheAllowedForms", spec := "fnBindAcceptsExactlyTheAllowedForms", stops := ["fmt.errorf, its operands' methods called"], inPlace := ["fmt.errorf", "internal/abi.NoEscape", "internal/bytealg.MakeNoZero"], unfollowed := true, recurses := true, apart := false }
/-- NO THEOREM (fmt's text is open here; it may be false): for the released tool's asking of the row's closed facts alone. THE STATEMENT IS 'FnBindAcceptsExactlyTheAllowedFormsToldSaid' (Qxb6618538aFmtCards.lean). -/
def FnBindAcceptsExactlyTheAllowedFormsFormAsk : Prop := fnBindAcceptsExactlyTheAllowedFormsRow.holds Tryf.pinned (OpenSpec.ofChange fnBindAcceptsExactlyTheAllowedFormsSpec)

/-- ITS FALSE NEIGHBOUR: 'it returns false'. Refute it at one input. -/
def fnBindAcceptsExactlyTheAllowedFormsWrong : ChangeSpec := { name := "fnBindAcceptsExactlyTheAllowedForms", fn := fun _ => fun
  | [d1, d2, d3, d4, d5, d6, d7, d8, d9, d10, d11] => { results := [.lit (.bool false)], args := [d1, d2, d3, d4, d5, d6, d7, d8, d9, d10, d11] }
  | _ => none }
def FnBindAcceptsExactlyTheAllowedFormsWrongFormAsk : Prop := fnBindAcceptsExactlyTheAllowedFormsRow.holds Tryf.pinned (OpenSpec.ofChange fnBindAcceptsExactlyTheAllowedFormsWrong)

/-- 'zzlaws_root_b1.FnBindSameWhicheverOrderFormsAreWritten': WHATEVER THE INPUT: true; the input reads as it did. -/
def fnBindSameWhicheverOrderFormsAreWrittenSpec : ChangeSpec := { name := "fnBindSameWhicheverOrderFormsAreWritten", fn := fun _ => fun
  | [d1, d2, d3, d4, d5, d6, d7, d8, d9, d10, d11] => { results := [.lit (.bool true)], args := [d1, d2, d3, d4, d5, d6, d7, d8, d9, d10, d11] }
  | _ => none }
def fnBindSameWhicheverOrderFormsAreWrittenRow : OpenClaim := { program := "qxb6618538afmt", sum := "9cb894898c2ce03ec3669b27ad7aea47c66593dfb67bc0c39473cb41e9200ca8", func := "example.com/heirloom/heirloom/zzlaws_root_b1.FnBindSameWhicheverOrderFormsAreWritten", spec := "fnBindSameWhicheverOrderFormsAreWritten", stops := ["fmt.errorf, its operands' methods called"], inPlace := ["fmt.errorf", "internal/abi.NoEscape", "internal/bytealg.MakeNoZero"], unfollowed := true, recurses := true, apart := false }
/-- NO THEOREM (fmt's text is open here; it may be false): for the released tool's asking of the row's closed facts alone. THE STATEMENT IS 'FnBindSameWhicheverOrderFormsAreWrittenToldSaid' (Qxb6618538aFmtCards.lean). -/
def FnBindSameWhicheverOrderFormsAreWrittenFormAsk : Prop := fnBindSameWhicheverOrderFormsAreWrittenRow.holds Tryf.pinned (OpenSpec.ofChange fnBindSameWhicheverOrderFormsAreWrittenSpec)

/-- ITS FALSE NEIGHBOUR: 'it returns false'. Refute it at one input. -/
def fnBindSameWhicheverOrderFormsAreWrittenWrong : ChangeSpec := { name := "fnBindSameWhicheverOrderFormsAreWritten", fn := fun _ => fun
  | [d1, d2, d3, d4, d5, d6, d7, d8, d9, d10, d11] => { results := [.lit (.bool false)], args := [d1, d2, d3, d4, d5, d6, d7, d8, d9, d10, d11] }
  | _ => none }
def FnBindSameWhicheverOrderFormsAreWrittenWrongFormAsk : Prop := fnBindSameWhicheverOrderFormsAreWrittenRow.holds Tryf.pinned (OpenSpec.ofChange fnBindSameWhicheverOrderFormsAreWrittenWrong)

/-- 'zzlaws_root_b1.FnValidateQueryExactlyDeclaredAndCoversBind': WHATEVER THE INPUT: true; the input reads as it did. -/
def fnValidateQueryExactlyDeclaredAndCoversBindSpec : ChangeSpec := { name := "fnValidateQueryExactlyDeclaredAndCoversBind", fn := fun _ => fun
  | [d1, d2, d3, d4, d5, d6, d7, d8, d9, d10, d11] => { results := [.lit (.bool true)], args := [d1, d2, d3, d4, d5, d6, d7, d8, d9, d10, d11] }
  | _ => none }
def fnValidateQueryExactlyDeclaredAndCoversBindRow : OpenClaim := { program := "qxb6618538afmt", sum := "9cb894898c2ce03ec3669b27ad7aea47c66593dfb67bc0c39473cb41e9200ca8", func := "example.com/heirloom/heirloom/zzlaws_root_b1.FnValidateQueryExactlyDeclaredAndCoversBind", spec := "fnValidateQueryExactlyDeclaredAndCoversBind", stops := ["fmt.errorf, its operands' methods called"], inPlace := ["fmt.errorf", "internal/abi.NoEscape", "internal/bytealg.MakeNoZero"], unfollowed := true, recurses := true, apart := false }
/-- NO THEOREM (fmt's text is open here; it may be false): for the released tool's asking of the row's closed facts alone. THE STATEMENT IS 'FnValidateQueryExactlyDeclaredAndCoversBindToldSaid' (Qxb6618538aFmtCards.lean). -/
def FnValidateQueryExactlyDeclaredAndCoversBindFormAsk : Prop := fnValidateQueryExactlyDeclaredAndCoversBindRow.holds Tryf.pinned (OpenSpec.ofChange fnValidateQueryExactlyDeclaredAndCoversBindSpec)

/-- ITS FALSE NEIGHBOUR: 'it returns false'. Refute it at one input. -/
def fnValidateQueryExactlyDeclaredAndCoversBindWrong : ChangeSpec := { name := "fnValidateQueryExactlyDeclaredAndCoversBind", fn := fun _ => fun
  | [d1, d2, d3, d4, d5, d6, d7, d8, d9, d10, d11] => { results := [.lit (.bool false)], args := [d1, d2, d3, d4, d5, d6, d7, d8, d9, d10, d11] }
  | _ => none }
def FnValidateQueryExactlyDeclaredAndCoversBindWrongFormAsk : Prop := fnValidateQueryExactlyDeclaredAndCoversBindRow.holds Tryf.pinned (OpenSpec.ofChange fnValidateQueryExactlyDeclaredAndCoversBindWrong)

/-- 'zzlaws_root_b1.FnValidateQueryFollowsAddedType': WHATEVER THE INPUT: true; the input reads as it did. -/
def fnValidateQueryFollowsAddedTypeSpec : ChangeSpec := { name := "fnValidateQueryFollowsAddedType", fn := fun _ => fun
  | [d1, d2, d3, d4, d5, d6, d7, d8, d9, d10, d11, d12] => { results := [.lit (.bool true)], args := [d1, d2, d3, d4, d5, d6, d7, d8, d9, d10, d11, d12] }
  | _ => none }
def fnValidateQueryFollowsAddedTypeRow : OpenClaim := { program := "qxb6618538afmt", sum := "9cb894898c2ce03ec3669b27ad7aea47c66593dfb67bc0c39473cb41e9200ca8", func := "example.com/heirloom/heirloom/zzlaws_root_b1.FnValidateQueryFollowsAddedType", spec := "fnValidateQueryFollowsAddedType", stops := ["fmt.errorf, its operands' methods called"], inPlace := ["fmt.errorf"], unfollowed := true, recurses := true, apart := false }
/-- NO THEOREM (fmt's text is open here; it may be false): for the released tool's asking of the row's closed facts alone. THE STATEMENT IS 'FnValidateQueryFollowsAddedTypeToldSaid' (Qxb6618538aFmtCards.lean). -/
def FnValidateQueryFollowsAddedTypeFormAsk : Prop := fnValidateQueryFollowsAddedTypeRow.holds Tryf.pinned (OpenSpec.ofChange fnValidateQueryFollowsAddedTypeSpec)

/-- ITS FALSE NEIGHBOUR: 'it returns false'. Refute it at one input. -/
def fnValidateQueryFollowsAddedTypeWrong : ChangeSpec := { name := "fnValidateQueryFollowsAddedType", fn := fun _ => fun
  | [d1, d2, d3, d4, d5, d6, d7, d8, d9, d10, d11, d12] => { results := [.lit (.bool false)], args := [d1, d2, d3, d4, d5, d6, d7, d8, d9, d10, d11, d12] }
  | _ => none }
def FnValidateQueryFollowsAddedTypeWrongFormAsk : Prop := fnValidateQueryFollowsAddedTypeRow.holds Tryf.pinned (OpenSpec.ofChange fnValidateQueryFollowsAddedTypeWrong)

end Rows
end Go.Proofs.Qxb6618538aFmt
