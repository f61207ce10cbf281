/-
  NARROWER THAN 'FOR EVERY INPUT', by the rows' own cells (each row's printed sentence says how): FnSortVRPsIsSortedSetOfInputs: laid · FnSortVRPsCutAgreesAndCountsDistinct: laid.
  DERIVED. THE GIVEN ROWS OF THIS SEAT. 2 by the template 'for every input the law returns true; each argument reads behind the call as it read before'; 0 by the template 'total and deterministic' (their statements: Qxb6616947aDoorTotals.lean).
  GIVEN WITH THE SEED: the statements are not yours to turn. If you find one false, say at which input.
  Laid BY PROGRAM, IN A SANDBOX (cutbox-rows.mjs): the forced cells as the released guide's own fill.sh prints them over the translation dc8700f414b923b3… (all of the seat's roots in one cut). By AI agents, Wed Nov 11 2026. No macro, syntax, notation, axiom, sorry.
-/
import Derived.Test.Qxb6616947aDoorChecked
import GoSem.Claim
import GoSem.ClaimJoined
import GoSem.ClaimMapViews
import Derived.JoinedTies
import Derived.KernelRfl
namespace Go.Proofs.Qxb6616947aDoor
/- THE CELL 'sum', in the pinned program and in every row, IS THE sha256 OF THE DUMP (.gsa) THAT Qxb6616947aDoorProg.lean LOADS. Nothing in Lean hashes anything: it is a label: what it is worth is what the hold of that sum in a sandbox is worth. -/
noncomputable def Tryd.pinned : Pinned := { name := "qxb6616947adoor", sum := "dc8700f414b923b35036a2f7870895710977e13136759dff90e4a057ed9dc2cf", checked := Tryd.checked }
namespace Rows
def none {H : Type} : Left H := { results := [], args := [] }

/- WHAT THE LISTED PACKAGE-LEVEL VARIABLES READ AS WHEN THE CALL BEGINS. Each datum BY PROGRAM (the guide's laid-datum.mjs) off the statement by which the dump's own 'gosem.cut.vars' lays the variable. In a bare row this is a premise. The card (Qxb6616947aDoorCards.lean) ties it to the program's text. -/
def laid_net_netip_z4 {H : Type} : DataW H := .agg [.ptr (.agg [.lit (.bool false), .lit (.string [])])]
def laid_net_netip_z6noz {H : Type} : DataW H := .agg [.ptr (.agg [.lit (.bool true), .lit (.string [])])]
def laid_net_netip_z0 {H : Type} : DataW H := .agg [.nil]

/-- 'zzlaws_validator_b1.FnSortVRPsIsSortedSetOfInputs': WHATEVER THE INPUT: true; the input reads as it did. -/
def fnSortVRPsIsSortedSetOfInputsSpec : ChangeSpec := { name := "fnSortVRPsIsSortedSetOfInputs", fn := fun _ => fun
  | [d] => { results := [.lit (.bool true)], args := [d] }
  | _ => none }
def fnSortVRPsIsSortedSetOfInputsRow : OpenClaim := { program := "qxb6616947adoor", sum := "dc8700f414b923b35036a2f7870895710977e13136759dff90e4a057ed9dc2cf", func := "example.com/originseal/originseal/zzlaws_validator_b1.FnSortVRPsIsSortedSetOfInputs", spec := "fnSortVRPsIsSortedSetOfInputs", unfollowed := true, recurses := true, named := ["net/netip.z4", "net/netip.z0", "net/netip.z6noz"], apart := false, laid := [("net/netip.z4", laid_net_netip_z4), ("net/netip.z6noz", laid_net_netip_z6noz), ("net/netip.z0", laid_net_netip_z0)] }
def FnSortVRPsIsSortedSetOfInputsSaid : Prop := fnSortVRPsIsSortedSetOfInputsRow.holds Tryd.pinned (OpenSpec.ofChange fnSortVRPsIsSortedSetOfInputsSpec)

/-- ITS FALSE NEIGHBOUR: 'it returns false'. Refute it at one input. -/
def fnSortVRPsIsSortedSetOfInputsWrong : ChangeSpec := { name := "fnSortVRPsIsSortedSetOfInputs", fn := fun _ => fun
  | [d] => { results := [.lit (.bool false)], args := [d] }
  | _ => none }
def FnSortVRPsIsSortedSetOfInputsWrongFalsely : Prop := fnSortVRPsIsSortedSetOfInputsRow.holds Tryd.pinned (OpenSpec.ofChange fnSortVRPsIsSortedSetOfInputsWrong)

/-- 'zzlaws_validator_b1.FnSortVRPsCutAgreesAndCountsDistinct': WHATEVER THE INPUT: true; the input reads as it did. -/
def fnSortVRPsCutAgreesAndCountsDistinctSpec : ChangeSpec := { name := "fnSortVRPsCutAgreesAndCountsDistinct", fn := fun _ => fun
  | [d1, d2] => { results := [.lit (.bool true)], args := [d1, d2] }
  | _ => none }
def fnSortVRPsCutAgreesAndCountsDistinctRow : OpenClaim := { program := "qxb6616947adoor", sum := "dc8700f414b923b35036a2f7870895710977e13136759dff90e4a057ed9dc2cf", func := "example.com/originseal/originseal/zzlaws_validator_b1.FnSortVRPsCutAgreesAndCountsDistinct", spec := "fnSortVRPsCutAgreesAndCountsDistinct", unfollowed := true, recurses := true, named := ["net/netip.z4", "net/netip.z0", "net/netip.z6noz"], apart := false, laid := [("net/netip.z4", laid_net_netip_z4), ("net/netip.z6noz", laid_net_netip_z6noz), ("net/netip.z0", laid_net_netip_z0)] }
def FnSortVRPsCutAgreesAndCountsDistinctSaid : Prop := fnSortVRPsCutAgreesAndCountsDistinctRow.holds Tryd.pinned (OpenSpec.ofChange fnSortVRPsCutAgreesAndCountsDistinctSpec)

/-- ITS FALSE NEIGHBOUR: 'it returns false'. Refute it at one input. -/
def fnSortVRPsCutAgreesAndCountsDistinctWrong : ChangeSpec := { name := "fnSortVRPsCutAgreesAndCountsDistinct", fn := fun _ => fun
  | [d1, d2] => { results := [.lit (.bool false)], args := [d1, d2] }
  | _ => none }
def FnSortVRPsCutAgreesAndCountsDistinctWrongFalsely : Prop := fnSortVRPsCutAgreesAndCountsDistinctRow.holds Tryd.pinned (OpenSpec.ofChange fnSortVRPsCutAgreesAndCountsDistinctWrong)

end Rows
end Go.Proofs.Qxb6616947aDoor
