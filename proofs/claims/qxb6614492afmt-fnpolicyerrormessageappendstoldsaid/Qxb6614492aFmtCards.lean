/-
  DERIVED. GIVEN WITH THE SEED: THE CARDS: each row of Qxb6614492aFmtRows.lean that lists a variable, with what it lists TIED to the program's text (the seventh form; the later family's looks); each row that meets fmt, with fmt's text TOLD by the authors' own Lean function (tested against real Go, not proved from fmt's source: count such statements apart). THE CARD IS WHAT COUNTS. Prove the row's statement (the work); the ties are given (Qxb6614492aFmtTie.lean); close each card by the builder's one call (the guide's Derived/Test/ToyasCard.lean, 'card_holds'). Laid BY PROGRAM, IN A SANDBOX (cutbox-door.mjs). By AI agents, Wed Nov 11 2026. No macro, syntax, notation, axiom, sorry.
-/
import Derived.Test.Qxb6614492aFmtRows
import GoSem.ClaimSeven
namespace Go.Proofs.Qxb6614492aFmt
namespace Rows

/-- THE TOLD CARD OF 'zzlaws_root_b1.FnPolicyErrorNestsAsText'. -/
def fnPolicyErrorNestsAsTextCard : Claim7 := { stood := { row := fnPolicyErrorNestsAsTextRow, standIns := [], harness := (true, "8cd675a4667f049f9564f1d1b1f632e2fb8e3c9d8f28fd27f33d8c00c84db3be"), looks := false }, told := true, goes := false }
def FnPolicyErrorNestsAsTextToldSaid : Prop := Claim7.holds Tryf.pinned (.plain (OpenSpec.ofChange fnPolicyErrorNestsAsTextSpec)) fnPolicyErrorNestsAsTextCard
/-- ITS FALSE NEIGHBOUR. Refute it at one input. -/
def FnPolicyErrorNestsAsTextToldWrongFalsely : Prop := Claim7.holds Tryf.pinned (.plain (OpenSpec.ofChange fnPolicyErrorNestsAsTextWrong)) fnPolicyErrorNestsAsTextCard

/-- THE TOLD CARD OF 'zzlaws_root_b1.FnPolicyErrorMessageAppends'. -/
def fnPolicyErrorMessageAppendsCard : Claim7 := { stood := { row := fnPolicyErrorMessageAppendsRow, standIns := [], harness := (true, "8cd675a4667f049f9564f1d1b1f632e2fb8e3c9d8f28fd27f33d8c00c84db3be"), looks := false }, told := true, goes := false }
def FnPolicyErrorMessageAppendsToldSaid : Prop := Claim7.holds Tryf.pinned (.plain (OpenSpec.ofChange fnPolicyErrorMessageAppendsSpec)) fnPolicyErrorMessageAppendsCard
/-- ITS FALSE NEIGHBOUR. Refute it at one input. -/
def FnPolicyErrorMessageAppendsToldWrongFalsely : Prop := Claim7.holds Tryf.pinned (.plain (OpenSpec.ofChange fnPolicyErrorMessageAppendsWrong)) fnPolicyErrorMessageAppendsCard

/-- THE TOLD AND TIED CARD OF 'zzlaws_root_b1.FnParseMembersAgreesWithParseName'. -/
def fnParseMembersAgreesWithParseNameCard : Claim7 := { stood := { row := fnParseMembersAgreesWithParseNameRow, standIns := [], harness := (true, "8cd675a4667f049f9564f1d1b1f632e2fb8e3c9d8f28fd27f33d8c00c84db3be"), looks := false }, told := true, laidByText := true, laidKinds := [.data, .listed, .data, .data, .pinned, .pinned], laidTests := true, laidLooks := .later, goes := false }
def FnParseMembersAgreesWithParseNameToldSaid : Prop := Claim7.holds Tryf.pinned (.plain (OpenSpec.ofChange fnParseMembersAgreesWithParseNameSpec)) fnParseMembersAgreesWithParseNameCard
/-- ITS FALSE NEIGHBOUR. Refute it at one input. -/
def FnParseMembersAgreesWithParseNameToldWrongFalsely : Prop := Claim7.holds Tryf.pinned (.plain (OpenSpec.ofChange fnParseMembersAgreesWithParseNameWrong)) fnParseMembersAgreesWithParseNameCard

/-- THE TOLD AND TIED CARD OF 'zzlaws_root_b1.FnParseMembersJoinsAtComma'. -/
def fnParseMembersJoinsAtCommaCard : Claim7 := { stood := { row := fnParseMembersJoinsAtCommaRow, standIns := [], harness := (true, "8cd675a4667f049f9564f1d1b1f632e2fb8e3c9d8f28fd27f33d8c00c84db3be"), looks := false }, told := true, laidByText := true, laidKinds := [.data, .listed, .data, .data, .pinned, .pinned], laidTests := true, laidLooks := .later, goes := false }
def FnParseMembersJoinsAtCommaToldSaid : Prop := Claim7.holds Tryf.pinned (.plain (OpenSpec.ofChange fnParseMembersJoinsAtCommaSpec)) fnParseMembersJoinsAtCommaCard
/-- ITS FALSE NEIGHBOUR. Refute it at one input. -/
def FnParseMembersJoinsAtCommaToldWrongFalsely : Prop := Claim7.holds Tryf.pinned (.plain (OpenSpec.ofChange fnParseMembersJoinsAtCommaWrong)) fnParseMembersJoinsAtCommaCard
end Rows
end Go.Proofs.Qxb6614492aFmt
