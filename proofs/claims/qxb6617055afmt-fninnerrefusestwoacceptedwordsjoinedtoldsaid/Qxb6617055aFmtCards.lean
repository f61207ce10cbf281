/-
  DERIVED. GIVEN WITH THE SEED: THE CARDS: each row of Qxb6617055aFmtRows.lean that lists a variable, with what it lists TIED to the program's text (the seventh form; the later family's looks); each row that meets fmt, with fmt's text TOLD by the authors' own Lean function (tested against real Go, not proved from fmt's source: count such statements apart). THE CARD IS WHAT COUNTS. Prove the row's statement (the work); the ties are given (Qxb6617055aFmtTie.lean); close each card by the builder's one call (the guide's Derived/Test/ToyasCard.lean, 'card_holds'). Laid BY PROGRAM, IN A SANDBOX (cutbox-door.mjs). By AI agents, Wed Nov 11 2026. No macro, syntax, notation, axiom, sorry.
-/
import Derived.Test.Qxb6617055aFmtRows
import GoSem.ClaimSeven
namespace Go.Proofs.Qxb6617055aFmt
namespace Rows

/-- THE TOLD CARD OF 'zzlaws_root_e1.FnParseShowDetailsAgreesWithInnerOnEveryWord'. -/
def fnParseShowDetailsAgreesWithInnerOnEveryWordCard : Claim7 := { stood := { row := fnParseShowDetailsAgreesWithInnerOnEveryWordRow, standIns := [], harness := (true, "686a8ebf0691415eaa41e90b2ad9de4514223d9b52e6b2f830d9b4cf35ab3248"), looks := false }, told := true, goes := false }
def FnParseShowDetailsAgreesWithInnerOnEveryWordToldSaid : Prop := Claim7.holds Tryf.pinned (.plain (OpenSpec.ofChange fnParseShowDetailsAgreesWithInnerOnEveryWordSpec)) fnParseShowDetailsAgreesWithInnerOnEveryWordCard
/-- ITS FALSE NEIGHBOUR. Refute it at one input. -/
def FnParseShowDetailsAgreesWithInnerOnEveryWordToldWrongFalsely : Prop := Claim7.holds Tryf.pinned (.plain (OpenSpec.ofChange fnParseShowDetailsAgreesWithInnerOnEveryWordWrong)) fnParseShowDetailsAgreesWithInnerOnEveryWordCard

/-- THE TOLD CARD OF 'zzlaws_root_e1.FnParseShowDetailsAcceptsAtMostTwoWordsEachReadBack'. -/
def fnParseShowDetailsAcceptsAtMostTwoWordsEachReadBackCard : Claim7 := { stood := { row := fnParseShowDetailsAcceptsAtMostTwoWordsEachReadBackRow, standIns := [], harness := (true, "686a8ebf0691415eaa41e90b2ad9de4514223d9b52e6b2f830d9b4cf35ab3248"), looks := false }, told := true, goes := false }
def FnParseShowDetailsAcceptsAtMostTwoWordsEachReadBackToldSaid : Prop := Claim7.holds Tryf.pinned (.plain (OpenSpec.ofChange fnParseShowDetailsAcceptsAtMostTwoWordsEachReadBackSpec)) fnParseShowDetailsAcceptsAtMostTwoWordsEachReadBackCard
/-- ITS FALSE NEIGHBOUR. Refute it at one input. -/
def FnParseShowDetailsAcceptsAtMostTwoWordsEachReadBackToldWrongFalsely : Prop := Claim7.holds Tryf.pinned (.plain (OpenSpec.ofChange fnParseShowDetailsAcceptsAtMostTwoWordsEachReadBackWrong)) fnParseShowDetailsAcceptsAtMostTwoWordsEachReadBackCard

/-- THE TOLD CARD OF 'zzlaws_root_e1.FnInnerRefusesTwoAcceptedWordsJoined'. -/
def fnInnerRefusesTwoAcceptedWordsJoinedCard : Claim7 := { stood := { row := fnInnerRefusesTwoAcceptedWordsJoinedRow, standIns := [], harness := (true, "686a8ebf0691415eaa41e90b2ad9de4514223d9b52e6b2f830d9b4cf35ab3248"), looks := false }, told := true, goes := false }
def FnInnerRefusesTwoAcceptedWordsJoinedToldSaid : Prop := Claim7.holds Tryf.pinned (.plain (OpenSpec.ofChange fnInnerRefusesTwoAcceptedWordsJoinedSpec)) fnInnerRefusesTwoAcceptedWordsJoinedCard
/-- ITS FALSE NEIGHBOUR. Refute it at one input. -/
def FnInnerRefusesTwoAcceptedWordsJoinedToldWrongFalsely : Prop := Claim7.holds Tryf.pinned (.plain (OpenSpec.ofChange fnInnerRefusesTwoAcceptedWordsJoinedWrong)) fnInnerRefusesTwoAcceptedWordsJoinedCard
end Rows
end Go.Proofs.Qxb6617055aFmt
