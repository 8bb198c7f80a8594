/-
  No cell of these rows narrows 'for every input' (looked for: loops, veiled, ifaces, maps, wideKeys, modest, calm, conditions, laid).
  DERIVED. THE GIVEN ROWS OF THIS SEAT. 4 by the template 'for every input the law returns true; each argument reads behind the call as it read before'; 0 by the template 'total and deterministic' (their statements: Qxb6617322aTotals.lean).
  GIVEN WITH THE SEED: the statements are not yours to turn. If you find one false, say at which input.
  Laid BY PROGRAM, IN A SANDBOX (cutbox-rows.mjs): the forced cells as the released guide's own fill.sh prints them over the translation 9171966abbadb11e… (all of the seat's roots in one cut). By AI agents, Wed Nov 11 2026. No macro, syntax, notation, axiom, sorry.
-/
import Derived.Test.Qxb6617322aChecked
import GoSem.Claim
import GoSem.ClaimJoined
import GoSem.ClaimMapViews
import Derived.JoinedTies
import Derived.KernelRfl
namespace Go.Proofs.Qxb6617322a
/- THE CELL 'sum', in the pinned program and in every row, IS THE sha256 OF THE DUMP (.gsa) THAT Qxb6617322aProg.lean LOADS. Nothing in Lean hashes anything: it is a label: what it is worth is what the hold of that sum in a sandbox is worth. -/
noncomputable def Try.pinned : Pinned := { name := "qxb6617322a", sum := "9171966abbadb11ee12f5f6b11299192722fce3478f90bd3963d1fd9f0412ec8", checked := Try.checked }
namespace Rows
def none {H : Type} : Left H := { results := [], args := [] }

/-- 'zzlaws_detector_b1.FnLookOnlyFirstPastCounts': WHATEVER THE INPUT: true; the input reads as it did. -/
def fnLookOnlyFirstPastCountsSpec : ChangeSpec := { name := "fnLookOnlyFirstPastCounts", fn := fun _ => fun
  | [d1, d2, d3, d4, d5, d6, d7, d8, d9, d10, d11] => { results := [.lit (.bool true)], args := [d1, d2, d3, d4, d5, d6, d7, d8, d9, d10, d11] }
  | _ => none }
def fnLookOnlyFirstPastCountsRow : OpenClaim := { program := "qxb6617322a", sum := "9171966abbadb11ee12f5f6b11299192722fce3478f90bd3963d1fd9f0412ec8", func := "example.com/pulseguard/pulseguard/zzlaws_detector_b1.FnLookOnlyFirstPastCounts", spec := "fnLookOnlyFirstPastCounts", apart := false }
def FnLookOnlyFirstPastCountsSaid : Prop := fnLookOnlyFirstPastCountsRow.holds Try.pinned (OpenSpec.ofChange fnLookOnlyFirstPastCountsSpec)

/-- ITS FALSE NEIGHBOUR: 'it returns false'. Refute it at one input. -/
def fnLookOnlyFirstPastCountsWrong : ChangeSpec := { name := "fnLookOnlyFirstPastCounts", fn := fun _ => fun
  | [d1, d2, d3, d4, d5, d6, d7, d8, d9, d10, d11] => { results := [.lit (.bool false)], args := [d1, d2, d3, d4, d5, d6, d7, d8, d9, d10, d11] }
  | _ => none }
def FnLookOnlyFirstPastCountsWrongFalsely : Prop := fnLookOnlyFirstPastCountsRow.holds Try.pinned (OpenSpec.ofChange fnLookOnlyFirstPastCountsWrong)

/-- 'zzlaws_detector_b1.FnWindowKeepsLastSize': WHATEVER THE INPUT: true; the input reads as it did. -/
def fnWindowKeepsLastSizeSpec : ChangeSpec := { name := "fnWindowKeepsLastSize", fn := fun _ => fun
  | [d1, d2] => { results := [.lit (.bool true)], args := [d1, d2] }
  | _ => none }
def fnWindowKeepsLastSizeRow : OpenClaim := { program := "qxb6617322a", sum := "9171966abbadb11ee12f5f6b11299192722fce3478f90bd3963d1fd9f0412ec8", func := "example.com/pulseguard/pulseguard/zzlaws_detector_b1.FnWindowKeepsLastSize", spec := "fnWindowKeepsLastSize", apart := false }
def FnWindowKeepsLastSizeSaid : Prop := fnWindowKeepsLastSizeRow.holds Try.pinned (OpenSpec.ofChange fnWindowKeepsLastSizeSpec)

/-- ITS FALSE NEIGHBOUR: 'it returns false'. Refute it at one input. -/
def fnWindowKeepsLastSizeWrong : ChangeSpec := { name := "fnWindowKeepsLastSize", fn := fun _ => fun
  | [d1, d2] => { results := [.lit (.bool false)], args := [d1, d2] }
  | _ => none }
def FnWindowKeepsLastSizeWrongFalsely : Prop := fnWindowKeepsLastSizeRow.holds Try.pinned (OpenSpec.ofChange fnWindowKeepsLastSizeWrong)

/-- 'zzlaws_detector_b1.FnWindowTurnResums': WHATEVER THE INPUT: true; the input reads as it did. -/
def fnWindowTurnResumsSpec : ChangeSpec := { name := "fnWindowTurnResums", fn := fun _ => fun
  | [d1, d2, d3, d4, d5, d6] => { results := [.lit (.bool true)], args := [d1, d2, d3, d4, d5, d6] }
  | _ => none }
def fnWindowTurnResumsRow : OpenClaim := { program := "qxb6617322a", sum := "9171966abbadb11ee12f5f6b11299192722fce3478f90bd3963d1fd9f0412ec8", func := "example.com/pulseguard/pulseguard/zzlaws_detector_b1.FnWindowTurnResums", spec := "fnWindowTurnResums", apart := false }
def FnWindowTurnResumsSaid : Prop := fnWindowTurnResumsRow.holds Try.pinned (OpenSpec.ofChange fnWindowTurnResumsSpec)

/-- ITS FALSE NEIGHBOUR: 'it returns false'. Refute it at one input. -/
def fnWindowTurnResumsWrong : ChangeSpec := { name := "fnWindowTurnResums", fn := fun _ => fun
  | [d1, d2, d3, d4, d5, d6] => { results := [.lit (.bool false)], args := [d1, d2, d3, d4, d5, d6] }
  | _ => none }
def FnWindowTurnResumsWrongFalsely : Prop := fnWindowTurnResumsRow.holds Try.pinned (OpenSpec.ofChange fnWindowTurnResumsWrong)

/-- 'zzlaws_detector_b1.FnUnreachableFixesFreshnessPoint': WHATEVER THE INPUT: true; the input reads as it did. -/
def fnUnreachableFixesFreshnessPointSpec : ChangeSpec := { name := "fnUnreachableFixesFreshnessPoint", fn := fun _ => fun
  | [d1, d2, d3, d4, d5, d6, d7, d8, d9, d10, d11] => { results := [.lit (.bool true)], args := [d1, d2, d3, d4, d5, d6, d7, d8, d9, d10, d11] }
  | _ => none }
def fnUnreachableFixesFreshnessPointRow : OpenClaim := { program := "qxb6617322a", sum := "9171966abbadb11ee12f5f6b11299192722fce3478f90bd3963d1fd9f0412ec8", func := "example.com/pulseguard/pulseguard/zzlaws_detector_b1.FnUnreachableFixesFreshnessPoint", spec := "fnUnreachableFixesFreshnessPoint", apart := false }
def FnUnreachableFixesFreshnessPointSaid : Prop := fnUnreachableFixesFreshnessPointRow.holds Try.pinned (OpenSpec.ofChange fnUnreachableFixesFreshnessPointSpec)

/-- ITS FALSE NEIGHBOUR: 'it returns false'. Refute it at one input. -/
def fnUnreachableFixesFreshnessPointWrong : ChangeSpec := { name := "fnUnreachableFixesFreshnessPoint", fn := fun _ => fun
  | [d1, d2, d3, d4, d5, d6, d7, d8, d9, d10, d11] => { results := [.lit (.bool false)], args := [d1, d2, d3, d4, d5, d6, d7, d8, d9, d10, d11] }
  | _ => none }
def FnUnreachableFixesFreshnessPointWrongFalsely : Prop := fnUnreachableFixesFreshnessPointRow.holds Try.pinned (OpenSpec.ofChange fnUnreachableFixesFreshnessPointWrong)

end Rows
end Go.Proofs.Qxb6617322a
