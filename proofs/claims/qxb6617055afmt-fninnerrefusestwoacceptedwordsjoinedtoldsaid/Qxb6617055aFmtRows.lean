/-
  No cell of these rows narrows 'for every input' (looked for: loops, veiled, ifaces, maps, wideKeys, modest, calm, conditions, laid).
  DERIVED. THE GIVEN ROWS OF THIS SEAT. 3 by the template 'for every input the law returns true; each argument reads behind the call as it read before'; 0 by the template 'total and deterministic' (their statements: Qxb6617055aFmtTotals.lean).
  GIVEN WITH THE SEED: the statements are not yours to turn. If you find one false, say at which input.
  Laid BY PROGRAM, IN A SANDBOX (cutbox-rows.mjs): the forced cells as the released guide's own fill.sh prints them over the translation c8b258f365807492… (all of the seat's roots in one cut). By AI agents, Wed Nov 11 2026. No macro, syntax, notation, axiom, sorry.
-/
import Derived.Test.Qxb6617055aFmtChecked
import GoSem.Claim
import GoSem.ClaimJoined
import GoSem.ClaimMapViews
import Derived.JoinedTies
import Derived.KernelRfl
namespace Go.Proofs.Qxb6617055aFmt
/- THE CELL 'sum', in the pinned program and in every row, IS THE sha256 OF THE DUMP (.gsa) THAT Qxb6617055aFmtProg.lean LOADS. Nothing in Lean hashes anything: it is a label: what it is worth is what the hold of that sum in a sandbox is worth. -/
noncomputable def Tryf.pinned : Pinned := { name := "qxb6617055afmt", sum := "c8b258f365807492790423740d07f5da1a8e0afbef4b6c9c6f6a8d06ca6741c4", checked := Tryf.checked }
namespace Rows
def none {H : Type} : Left H := { results := [], args := [] }

/-- 'zzlaws_root_e1.FnParseShowDetailsAgreesWithInnerOnEveryWord': WHATEVER THE INPUT: true; the input reads as it did. -/
def fnParseShowDetailsAgreesWithInnerOnEveryWordSpec : ChangeSpec := { name := "fnParseShowDetailsAgreesWithInnerOnEveryWord", fn := fun _ => fun
  | [d] => { results := [.lit (.bool true)], args := [d] }
  | _ => none }
def fnParseShowDetailsAgreesWithInnerOnEveryWordRow : OpenClaim := { program := "qxb6617055afmt", sum := "c8b258f365807492790423740d07f5da1a8e0afbef4b6c9c6f6a8d06ca6741c4", func := "example.com/pulsekeep/pulsekeep/zzlaws_root_e1.FnParseShowDetailsAgreesWithInnerOnEveryWord", spec := "fnParseShowDetailsAgreesWithInnerOnEveryWord", stops := ["fmt.errorf"], inPlace := ["fmt.errorf"], apart := false }
/-- NO THEOREM (fmt's text is open here; it may be false): for the released tool's asking of the row's closed facts alone. THE STATEMENT IS 'FnParseShowDetailsAgreesWithInnerOnEveryWordToldSaid' (Qxb6617055aFmtCards.lean). -/
def FnParseShowDetailsAgreesWithInnerOnEveryWordFormAsk : Prop := fnParseShowDetailsAgreesWithInnerOnEveryWordRow.holds Tryf.pinned (OpenSpec.ofChange fnParseShowDetailsAgreesWithInnerOnEveryWordSpec)

/-- ITS FALSE NEIGHBOUR: 'it returns false'. Refute it at one input. -/
def fnParseShowDetailsAgreesWithInnerOnEveryWordWrong : ChangeSpec := { name := "fnParseShowDetailsAgreesWithInnerOnEveryWord", fn := fun _ => fun
  | [d] => { results := [.lit (.bool false)], args := [d] }
  | _ => none }
def FnParseShowDetailsAgreesWithInnerOnEveryWordWrongFormAsk : Prop := fnParseShowDetailsAgreesWithInnerOnEveryWordRow.holds Tryf.pinned (OpenSpec.ofChange fnParseShowDetailsAgreesWithInnerOnEveryWordWrong)

/-- 'zzlaws_root_e1.FnParseShowDetailsAcceptsAtMostTwoWordsEachReadBack': WHATEVER THE INPUT: true; the input reads as it did. -/
def fnParseShowDetailsAcceptsAtMostTwoWordsEachReadBackSpec : ChangeSpec := { name := "fnParseShowDetailsAcceptsAtMostTwoWordsEachReadBack", fn := fun _ => fun
  | [d1, d2, d3] => { results := [.lit (.bool true)], args := [d1, d2, d3] }
  | _ => none }
def fnParseShowDetailsAcceptsAtMostTwoWordsEachReadBackRow : OpenClaim := { program := "qxb6617055afmt", sum := "c8b258f365807492790423740d07f5da1a8e0afbef4b6c9c6f6a8d06ca6741c4", func := "example.com/pulsekeep/pulsekeep/zzlaws_root_e1.FnParseShowDetailsAcceptsAtMostTwoWordsEachReadBack", spec := "fnParseShowDetailsAcceptsAtMostTwoWordsEachReadBack", stops := ["fmt.errorf"], inPlace := ["fmt.errorf"], apart := false }
/-- NO THEOREM (fmt's text is open here; it may be false): for the released tool's asking of the row's closed facts alone. THE STATEMENT IS 'FnParseShowDetailsAcceptsAtMostTwoWordsEachReadBackToldSaid' (Qxb6617055aFmtCards.lean). -/
def FnParseShowDetailsAcceptsAtMostTwoWordsEachReadBackFormAsk : Prop := fnParseShowDetailsAcceptsAtMostTwoWordsEachReadBackRow.holds Tryf.pinned (OpenSpec.ofChange fnParseShowDetailsAcceptsAtMostTwoWordsEachReadBackSpec)

/-- ITS FALSE NEIGHBOUR: 'it returns false'. Refute it at one input. -/
def fnParseShowDetailsAcceptsAtMostTwoWordsEachReadBackWrong : ChangeSpec := { name := "fnParseShowDetailsAcceptsAtMostTwoWordsEachReadBack", fn := fun _ => fun
  | [d1, d2, d3] => { results := [.lit (.bool false)], args := [d1, d2, d3] }
  | _ => none }
def FnParseShowDetailsAcceptsAtMostTwoWordsEachReadBackWrongFormAsk : Prop := fnParseShowDetailsAcceptsAtMostTwoWordsEachReadBackRow.holds Tryf.pinned (OpenSpec.ofChange fnParseShowDetailsAcceptsAtMostTwoWordsEachReadBackWrong)

/-- 'zzlaws_root_e1.FnInnerRefusesTwoAcceptedWordsJoined': WHATEVER THE INPUT: true; the input reads as it did. -/
def fnInnerRefusesTwoAcceptedWordsJoinedSpec : ChangeSpec := { name := "fnInnerRefusesTwoAcceptedWordsJoined", fn := fun _ => fun
  | [d1, d2] => { results := [.lit (.bool true)], args := [d1, d2] }
  | _ => none }
def fnInnerRefusesTwoAcceptedWordsJoinedRow : OpenClaim := { program := "qxb6617055afmt", sum := "c8b258f365807492790423740d07f5da1a8e0afbef4b6c9c6f6a8d06ca6741c4", func := "example.com/pulsekeep/pulsekeep/zzlaws_root_e1.FnInnerRefusesTwoAcceptedWordsJoined", spec := "fnInnerRefusesTwoAcceptedWordsJoined", stops := ["fmt.errorf"], inPlace := ["fmt.errorf"], apart := false }
/-- NO THEOREM (fmt's text is open here; it may be false): for the released tool's asking of the row's closed facts alone. THE STATEMENT IS 'FnInnerRefusesTwoAcceptedWordsJoinedToldSaid' (Qxb6617055aFmtCards.lean). -/
def FnInnerRefusesTwoAcceptedWordsJoinedFormAsk : Prop := fnInnerRefusesTwoAcceptedWordsJoinedRow.holds Tryf.pinned (OpenSpec.ofChange fnInnerRefusesTwoAcceptedWordsJoinedSpec)

/-- ITS FALSE NEIGHBOUR: 'it returns false'. Refute it at one input. -/
def fnInnerRefusesTwoAcceptedWordsJoinedWrong : ChangeSpec := { name := "fnInnerRefusesTwoAcceptedWordsJoined", fn := fun _ => fun
  | [d1, d2] => { results := [.lit (.bool false)], args := [d1, d2] }
  | _ => none }
def FnInnerRefusesTwoAcceptedWordsJoinedWrongFormAsk : Prop := fnInnerRefusesTwoAcceptedWordsJoinedRow.holds Tryf.pinned (OpenSpec.ofChange fnInnerRefusesTwoAcceptedWordsJoinedWrong)

end Rows
end Go.Proofs.Qxb6617055aFmt
