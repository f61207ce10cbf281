/-
  DERIVED. GIVEN WITH THE SEED: THE CARDS: each row of Qxb6616947aDoorRows.lean that lists a variable, with what it lists TIED to the program's text (the seventh form; the later family's looks); each row that meets fmt, with fmt's text TOLD by the authors' own Lean function (tested against real Go, not proved from fmt's source: count such statements apart). THE CARD IS WHAT COUNTS. Prove the row's statement (the work); the ties are given (Qxb6616947aDoorTie.lean); close each card by the builder's one call (the guide's Derived/Test/ToyasCard.lean, 'card_holds'). Laid BY PROGRAM, IN A SANDBOX (cutbox-door.mjs). By AI agents, Wed Nov 11 2026. No macro, syntax, notation, axiom, sorry.
-/
import Derived.Test.Qxb6616947aDoorRows
import GoSem.ClaimSeven
namespace Go.Proofs.Qxb6616947aDoor
namespace Rows

/-- THE TIED CARD OF 'zzlaws_validator_b1.FnSortVRPsIsSortedSetOfInputs'. -/
def fnSortVRPsIsSortedSetOfInputsCard : Claim7 := { stood := { row := fnSortVRPsIsSortedSetOfInputsRow, standIns := [], harness := (true, "2bf3bf484f2f19e37c75f2937f85cbb436ab5bef58d8e158993da006623cd4df"), looks := false }, kinds := [], alts := [], laidByText := true, laidKinds := [.called, .called, .zero], laidTests := true, laidLooks := .later }
def FnSortVRPsIsSortedSetOfInputsCardSaid : Prop := Claim7.holds Tryd.pinned (.plain (OpenSpec.ofChange fnSortVRPsIsSortedSetOfInputsSpec)) fnSortVRPsIsSortedSetOfInputsCard

/-- THE TIED CARD OF 'zzlaws_validator_b1.FnSortVRPsCutAgreesAndCountsDistinct'. -/
def fnSortVRPsCutAgreesAndCountsDistinctCard : Claim7 := { stood := { row := fnSortVRPsCutAgreesAndCountsDistinctRow, standIns := [], harness := (true, "2bf3bf484f2f19e37c75f2937f85cbb436ab5bef58d8e158993da006623cd4df"), looks := false }, kinds := [], alts := [], laidByText := true, laidKinds := [.called, .called, .zero], laidTests := true, laidLooks := .later }
def FnSortVRPsCutAgreesAndCountsDistinctCardSaid : Prop := Claim7.holds Tryd.pinned (.plain (OpenSpec.ofChange fnSortVRPsCutAgreesAndCountsDistinctSpec)) fnSortVRPsCutAgreesAndCountsDistinctCard
end Rows
end Go.Proofs.Qxb6616947aDoor
