/-
  No cell of these rows narrows 'for every input' (looked for: loops, veiled, ifaces, maps, wideKeys, modest, calm, conditions, laid).
  DERIVED. THE GIVEN ROWS OF THIS SEAT. 5 by the template 'for every input the law returns true; each argument reads behind the call as it read before'; 0 by the template 'total and deterministic' (their statements: Qxb6616760aTotals.lean).
  GIVEN WITH THE SEED: the statements are not yours to turn. If you find one false, say at which input.
  Laid BY PROGRAM, IN A SANDBOX (cutbox-rows.mjs): the forced cells as the released guide's own fill.sh prints them over the translation 5bf054d255941d3a… (all of the seat's roots in one cut). By AI agents, Wed Nov 11 2026. No macro, syntax, notation, axiom, sorry.
-/
import Derived.Test.Qxb6616760aChecked
import GoSem.Claim
import GoSem.ClaimJoined
import GoSem.ClaimMapViews
import Derived.JoinedTies
import Derived.KernelRfl
namespace Go.Proofs.Qxb6616760a
/- THE CELL 'sum', in the pinned program and in every row, IS THE sha256 OF THE DUMP (.gsa) THAT Qxb6616760aProg.lean LOADS. Nothing in Lean hashes anything: it is a label: what it is worth is what the hold of that sum in a sandbox is worth. -/
noncomputable def Try.pinned : Pinned := { name := "qxb6616760a", sum := "5bf054d255941d3ac4519269938496f9ca9b882787e3a43eefa3f4a08e3d7868", checked := Try.checked }
namespace Rows
def none {H : Type} : Left H := { results := [], args := [] }

/-- 'zzlaws_internal_protocol_b1.FnPatienceSlowRoundsCountAsEightShortest': WHATEVER THE INPUT: true; the input reads as it did. -/
def fnPatienceSlowRoundsCountAsEightShortestSpec : ChangeSpec := { name := "fnPatienceSlowRoundsCountAsEightShortest", fn := fun _ => fun
  | [d1, d2] => { results := [.lit (.bool true)], args := [d1, d2] }
  | _ => none }
def fnPatienceSlowRoundsCountAsEightShortestRow : OpenClaim := { program := "qxb6616760a", sum := "5bf054d255941d3ac4519269938496f9ca9b882787e3a43eefa3f4a08e3d7868", func := "example.com/mootcast/mootcast/zzlaws_internal_protocol_b1.FnPatienceSlowRoundsCountAsEightShortest", spec := "fnPatienceSlowRoundsCountAsEightShortest", apart := false }
def FnPatienceSlowRoundsCountAsEightShortestSaid : Prop := fnPatienceSlowRoundsCountAsEightShortestRow.holds Try.pinned (OpenSpec.ofChange fnPatienceSlowRoundsCountAsEightShortestSpec)

/-- ITS FALSE NEIGHBOUR: 'it returns false'. Refute it at one input. -/
def fnPatienceSlowRoundsCountAsEightShortestWrong : ChangeSpec := { name := "fnPatienceSlowRoundsCountAsEightShortest", fn := fun _ => fun
  | [d1, d2] => { results := [.lit (.bool false)], args := [d1, d2] }
  | _ => none }
def FnPatienceSlowRoundsCountAsEightShortestWrongFalsely : Prop := fnPatienceSlowRoundsCountAsEightShortestRow.holds Try.pinned (OpenSpec.ofChange fnPatienceSlowRoundsCountAsEightShortestWrong)

/-- 'zzlaws_internal_protocol_b1.FnPatienceTwiceUsualWithinCap': WHATEVER THE INPUT: true; the input reads as it did. -/
def fnPatienceTwiceUsualWithinCapSpec : ChangeSpec := { name := "fnPatienceTwiceUsualWithinCap", fn := fun _ => fun
  | [d1, d2, d3] => { results := [.lit (.bool true)], args := [d1, d2, d3] }
  | _ => none }
def fnPatienceTwiceUsualWithinCapRow : OpenClaim := { program := "qxb6616760a", sum := "5bf054d255941d3ac4519269938496f9ca9b882787e3a43eefa3f4a08e3d7868", func := "example.com/mootcast/mootcast/zzlaws_internal_protocol_b1.FnPatienceTwiceUsualWithinCap", spec := "fnPatienceTwiceUsualWithinCap", apart := false }
def FnPatienceTwiceUsualWithinCapSaid : Prop := fnPatienceTwiceUsualWithinCapRow.holds Try.pinned (OpenSpec.ofChange fnPatienceTwiceUsualWithinCapSpec)

/-- ITS FALSE NEIGHBOUR: 'it returns false'. Refute it at one input. -/
def fnPatienceTwiceUsualWithinCapWrong : ChangeSpec := { name := "fnPatienceTwiceUsualWithinCap", fn := fun _ => fun
  | [d1, d2, d3] => { results := [.lit (.bool false)], args := [d1, d2, d3] }
  | _ => none }
def FnPatienceTwiceUsualWithinCapWrongFalsely : Prop := fnPatienceTwiceUsualWithinCapRow.holds Try.pinned (OpenSpec.ofChange fnPatienceTwiceUsualWithinCapWrong)

/-- 'zzlaws_internal_protocol_b1.FnAsksAddKeepsEveryAskInHeapOrder': WHATEVER THE INPUT: true; the input reads as it did. -/
def fnAsksAddKeepsEveryAskInHeapOrderSpec : ChangeSpec := { name := "fnAsksAddKeepsEveryAskInHeapOrder", fn := fun _ => fun
  | [d1, d2] => { results := [.lit (.bool true)], args := [d1, d2] }
  | _ => none }
def fnAsksAddKeepsEveryAskInHeapOrderRow : OpenClaim := { program := "qxb6616760a", sum := "5bf054d255941d3ac4519269938496f9ca9b882787e3a43eefa3f4a08e3d7868", func := "example.com/mootcast/mootcast/zzlaws_internal_protocol_b1.FnAsksAddKeepsEveryAskInHeapOrder", spec := "fnAsksAddKeepsEveryAskInHeapOrder", unfollowed := true, recurses := true, apart := false }
def FnAsksAddKeepsEveryAskInHeapOrderSaid : Prop := fnAsksAddKeepsEveryAskInHeapOrderRow.holds Try.pinned (OpenSpec.ofChange fnAsksAddKeepsEveryAskInHeapOrderSpec)

/-- ITS FALSE NEIGHBOUR: 'it returns false'. Refute it at one input. -/
def fnAsksAddKeepsEveryAskInHeapOrderWrong : ChangeSpec := { name := "fnAsksAddKeepsEveryAskInHeapOrder", fn := fun _ => fun
  | [d1, d2] => { results := [.lit (.bool false)], args := [d1, d2] }
  | _ => none }
def FnAsksAddKeepsEveryAskInHeapOrderWrongFalsely : Prop := fnAsksAddKeepsEveryAskInHeapOrderRow.holds Try.pinned (OpenSpec.ofChange fnAsksAddKeepsEveryAskInHeapOrderWrong)

/-- 'zzlaws_internal_protocol_b1.FnAsksAddFrontIsEarliestSoFar': WHATEVER THE INPUT: true; the input reads as it did. -/
def fnAsksAddFrontIsEarliestSoFarSpec : ChangeSpec := { name := "fnAsksAddFrontIsEarliestSoFar", fn := fun _ => fun
  | [d1, d2] => { results := [.lit (.bool true)], args := [d1, d2] }
  | _ => none }
def fnAsksAddFrontIsEarliestSoFarRow : OpenClaim := { program := "qxb6616760a", sum := "5bf054d255941d3ac4519269938496f9ca9b882787e3a43eefa3f4a08e3d7868", func := "example.com/mootcast/mootcast/zzlaws_internal_protocol_b1.FnAsksAddFrontIsEarliestSoFar", spec := "fnAsksAddFrontIsEarliestSoFar", unfollowed := true, recurses := true, apart := false }
def FnAsksAddFrontIsEarliestSoFarSaid : Prop := fnAsksAddFrontIsEarliestSoFarRow.holds Try.pinned (OpenSpec.ofChange fnAsksAddFrontIsEarliestSoFarSpec)

/-- ITS FALSE NEIGHBOUR: 'it returns false'. Refute it at one input. -/
def fnAsksAddFrontIsEarliestSoFarWrong : ChangeSpec := { name := "fnAsksAddFrontIsEarliestSoFar", fn := fun _ => fun
  | [d1, d2] => { results := [.lit (.bool false)], args := [d1, d2] }
  | _ => none }
def FnAsksAddFrontIsEarliestSoFarWrongFalsely : Prop := fnAsksAddFrontIsEarliestSoFarRow.holds Try.pinned (OpenSpec.ofChange fnAsksAddFrontIsEarliestSoFarWrong)

/-- 'zzlaws_internal_protocol_b1.FnQueueLenCountsEveryAdd': WHATEVER THE INPUT: true; the input reads as it did. -/
def fnQueueLenCountsEveryAddSpec : ChangeSpec := { name := "fnQueueLenCountsEveryAdd", fn := fun _ => fun
  | [d1, d2] => { results := [.lit (.bool true)], args := [d1, d2] }
  | _ => none }
def fnQueueLenCountsEveryAddRow : OpenClaim := { program := "qxb6616760a", sum := "5bf054d255941d3ac4519269938496f9ca9b882787e3a43eefa3f4a08e3d7868", func := "example.com/mootcast/mootcast/zzlaws_internal_protocol_b1.FnQueueLenCountsEveryAdd", spec := "fnQueueLenCountsEveryAdd", unfollowed := true, recurses := true, apart := false }
def FnQueueLenCountsEveryAddSaid : Prop := fnQueueLenCountsEveryAddRow.holds Try.pinned (OpenSpec.ofChange fnQueueLenCountsEveryAddSpec)

/-- ITS FALSE NEIGHBOUR: 'it returns false'. Refute it at one input. -/
def fnQueueLenCountsEveryAddWrong : ChangeSpec := { name := "fnQueueLenCountsEveryAdd", fn := fun _ => fun
  | [d1, d2] => { results := [.lit (.bool false)], args := [d1, d2] }
  | _ => none }
def FnQueueLenCountsEveryAddWrongFalsely : Prop := fnQueueLenCountsEveryAddRow.holds Try.pinned (OpenSpec.ofChange fnQueueLenCountsEveryAddWrong)

end Rows
end Go.Proofs.Qxb6616760a
