/-
  DERIVED. GIVEN WITH THE SEED: THE CARDS: each row of Qxb6618538aFmtRows.lean that lists a variable, with what it lists TIED to the program's text (the seventh form; the later family's looks); each row that meets fmt, with fmt's text TOLD by the authors' own Lean function (tested against real Go, not proved from fmt's source: count such statements apart). THE CARD IS WHAT COUNTS. Prove the row's statement (the work); the ties are given (Qxb6618538aFmtTie.lean); close each card by the builder's one call (the guide's Derived/Test/ToyasCard.lean, 'card_holds'). Laid BY PROGRAM, IN A SANDBOX (cutbox-door.mjs). By AI agents, Wed Nov 11 2026. No macro, syntax, notation, axiom, sorry.
-/
import Derived.Test.Qxb6618538aFmtRows
import GoSem.ClaimSeven
namespace Go.Proofs.Qxb6618538aFmt
namespace Rows

/-- THE TOLD CARD OF 'zzlaws_root_b1.FnBindAcceptsExactlyTheAllowedForms'. -/
def fnBindAcceptsExactlyTheAllowedFormsCard : Claim7 := { stood := { row := fnBindAcceptsExactlyTheAllowedFormsRow, standIns := [], harness := (true, "82f88285c471b08e4298231427ea6d6bd01ede36bd530b73a142b271ae6f6e91"), looks := false }, told := true, goes := false }
def FnBindAcceptsExactlyTheAllowedFormsToldSaid : Prop := Claim7.holds Tryf.pinned (.plain (OpenSpec.ofChange fnBindAcceptsExactlyTheAllowedFormsSpec)) fnBindAcceptsExactlyTheAllowedFormsCard
/-- ITS FALSE NEIGHBOUR. Refute it at one input. -/
def FnBindAcceptsExactlyTheAllowedFormsToldWrongFalsely : Prop := Claim7.holds Tryf.pinned (.plain (OpenSpec.ofChange fnBindAcceptsExactlyTheAllowedFormsWrong)) fnBindAcceptsExactlyTheAllowedFormsCard

/-- THE TOLD CARD OF 'zzlaws_root_b1.FnBindSameWhicheverOrderFormsAreWritten'. -/
def fnBindSameWhicheverOrderFormsAreWrittenCard : Claim7 := { stood := { row := fnBindSameWhicheverOrderFormsAreWrittenRow, standIns := [], harness := (true, "82f88285c471b08e4298231427ea6d6bd01ede36bd530b73a142b271ae6f6e91"), looks := false }, told := true, goes := false }
def FnBindSameWhicheverOrderFormsAreWrittenToldSaid : Prop := Claim7.holds Tryf.pinned (.plain (OpenSpec.ofChange fnBindSameWhicheverOrderFormsAreWrittenSpec)) fnBindSameWhicheverOrderFormsAreWrittenCard
/-- ITS FALSE NEIGHBOUR. Refute it at one input. -/
def FnBindSameWhicheverOrderFormsAreWrittenToldWrongFalsely : Prop := Claim7.holds Tryf.pinned (.plain (OpenSpec.ofChange fnBindSameWhicheverOrderFormsAreWrittenWrong)) fnBindSameWhicheverOrderFormsAreWrittenCard

/-- THE TOLD CARD OF 'zzlaws_root_b1.FnValidateQueryExactlyDeclaredAndCoversBind'. -/
def fnValidateQueryExactlyDeclaredAndCoversBindCard : Claim7 := { stood := { row := fnValidateQueryExactlyDeclaredAndCoversBindRow, standIns := [], harness := (true, "82f88285c471b08e4298231427ea6d6bd01ede36bd530b73a142b271ae6f6e91"), looks := false }, told := true, goes := false }
def FnValidateQueryExactlyDeclaredAndCoversBindToldSaid : Prop := Claim7.holds Tryf.pinned (.plain (OpenSpec.ofChange fnValidateQueryExactlyDeclaredAndCoversBindSpec)) fnValidateQueryExactlyDeclaredAndCoversBindCard
/-- ITS FALSE NEIGHBOUR. Refute it at one input. -/
def FnValidateQueryExactlyDeclaredAndCoversBindToldWrongFalsely : Prop := Claim7.holds Tryf.pinned (.plain (OpenSpec.ofChange fnValidateQueryExactlyDeclaredAndCoversBindWrong)) fnValidateQueryExactlyDeclaredAndCoversBindCard

/-- THE TOLD CARD OF 'zzlaws_root_b1.FnValidateQueryFollowsAddedType'. -/
def fnValidateQueryFollowsAddedTypeCard : Claim7 := { stood := { row := fnValidateQueryFollowsAddedTypeRow, standIns := [], harness := (true, "82f88285c471b08e4298231427ea6d6bd01ede36bd530b73a142b271ae6f6e91"), looks := false }, told := true, goes := false }
def FnValidateQueryFollowsAddedTypeToldSaid : Prop := Claim7.holds Tryf.pinned (.plain (OpenSpec.ofChange fnValidateQueryFollowsAddedTypeSpec)) fnValidateQueryFollowsAddedTypeCard
/-- ITS FALSE NEIGHBOUR. Refute it at one input. -/
def FnValidateQueryFollowsAddedTypeToldWrongFalsely : Prop := Claim7.holds Tryf.pinned (.plain (OpenSpec.ofChange fnValidateQueryFollowsAddedTypeWrong)) fnValidateQueryFollowsAddedTypeCard
end Rows
end Go.Proofs.Qxb6618538aFmt
