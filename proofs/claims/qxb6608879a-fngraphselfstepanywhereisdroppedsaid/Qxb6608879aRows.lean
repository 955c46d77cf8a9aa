/-
  No cell of these rows narrows 'for every input' (looked for: loops, veiled, ifaces, maps, wideKeys, modest, calm, conditions, laid).
  DERIVED. THE GIVEN ROWS OF THIS SEAT. 7 by the template 'for every input the law returns true; each argument reads behind the call as it read before'; 0 by the template 'total and deterministic' (their statements: Qxb6608879aTotals.lean).
  GIVEN WITH THE SEED: the statements are not yours to turn. If you find one false, say at which input.
  Laid BY PROGRAM, IN A SANDBOX (cutbox-rows.mjs): the forced cells as the released guide's own fill.sh prints them over the translation a186ae6aed1d80b0… (all of the seat's roots in one cut). By AI agents, Wed Nov 11 2026. No macro, syntax, notation, axiom, sorry.
-/
import Derived.Test.Qxb6608879aChecked
import GoSem.Claim
import GoSem.ClaimJoined
import GoSem.ClaimMapViews
import Derived.JoinedTies
import Derived.KernelRfl
namespace Go.Proofs.Qxb6608879a
/- THE CELL 'sum', in the pinned program and in every row, IS THE sha256 OF THE DUMP (.gsa) THAT Qxb6608879aProg.lean LOADS. Nothing in Lean hashes anything: it is a label: what it is worth is what the hold of that sum in a sandbox is worth. -/
noncomputable def Try.pinned : Pinned := { name := "qxb6608879a", sum := "a186ae6aed1d80b06b40e707c4e1e68dca7ee8be7786d70126624ac2a2ca9fcc", checked := Try.checked }
namespace Rows
def none {H : Type} : Left H := { results := [], args := [] }

/-- 'zzlaws_root_b1.FnListingAtIsTheUnmarkedPlace': WHATEVER THE INPUT: true; the input reads as it did. -/
def fnListingAtIsTheUnmarkedPlaceSpec : ChangeSpec := { name := "fnListingAtIsTheUnmarkedPlace", fn := fun _ => fun
  | [d1, d2, d3, d4] => { results := [.lit (.bool true)], args := [d1, d2, d3, d4] }
  | _ => none }
def fnListingAtIsTheUnmarkedPlaceRow : OpenClaim := { program := "qxb6608879a", sum := "a186ae6aed1d80b06b40e707c4e1e68dca7ee8be7786d70126624ac2a2ca9fcc", func := "example.com/replicheck/replicheck/zzlaws_root_b1.FnListingAtIsTheUnmarkedPlace", spec := "fnListingAtIsTheUnmarkedPlace", apart := false }
def FnListingAtIsTheUnmarkedPlaceSaid : Prop := fnListingAtIsTheUnmarkedPlaceRow.holds Try.pinned (OpenSpec.ofChange fnListingAtIsTheUnmarkedPlaceSpec)

/-- ITS FALSE NEIGHBOUR: 'it returns false'. Refute it at one input. -/
def fnListingAtIsTheUnmarkedPlaceWrong : ChangeSpec := { name := "fnListingAtIsTheUnmarkedPlace", fn := fun _ => fun
  | [d1, d2, d3, d4] => { results := [.lit (.bool false)], args := [d1, d2, d3, d4] }
  | _ => none }
def FnListingAtIsTheUnmarkedPlaceWrongFalsely : Prop := fnListingAtIsTheUnmarkedPlaceRow.holds Try.pinned (OpenSpec.ofChange fnListingAtIsTheUnmarkedPlaceWrong)

/-- 'zzlaws_root_b1.FnListingAtGivesThePlaceMarkedOrNotWhateverElse': WHATEVER THE INPUT: true; the input reads as it did. -/
def fnListingAtGivesThePlaceMarkedOrNotWhateverElseSpec : ChangeSpec := { name := "fnListingAtGivesThePlaceMarkedOrNotWhateverElse", fn := fun _ => fun
  | [d1, d2, d3, d4, d5, d6, d7] => { results := [.lit (.bool true)], args := [d1, d2, d3, d4, d5, d6, d7] }
  | _ => none }
def fnListingAtGivesThePlaceMarkedOrNotWhateverElseRow : OpenClaim := { program := "qxb6608879a", sum := "a186ae6aed1d80b06b40e707c4e1e68dca7ee8be7786d70126624ac2a2ca9fcc", func := "example.com/replicheck/replicheck/zzlaws_root_b1.FnListingAtGivesThePlaceMarkedOrNotWhateverElse", spec := "fnListingAtGivesThePlaceMarkedOrNotWhateverElse", apart := false }
def FnListingAtGivesThePlaceMarkedOrNotWhateverElseSaid : Prop := fnListingAtGivesThePlaceMarkedOrNotWhateverElseRow.holds Try.pinned (OpenSpec.ofChange fnListingAtGivesThePlaceMarkedOrNotWhateverElseSpec)

/-- ITS FALSE NEIGHBOUR: 'it returns false'. Refute it at one input. -/
def fnListingAtGivesThePlaceMarkedOrNotWhateverElseWrong : ChangeSpec := { name := "fnListingAtGivesThePlaceMarkedOrNotWhateverElse", fn := fun _ => fun
  | [d1, d2, d3, d4, d5, d6, d7] => { results := [.lit (.bool false)], args := [d1, d2, d3, d4, d5, d6, d7] }
  | _ => none }
def FnListingAtGivesThePlaceMarkedOrNotWhateverElseWrongFalsely : Prop := fnListingAtGivesThePlaceMarkedOrNotWhateverElseRow.holds Try.pinned (OpenSpec.ofChange fnListingAtGivesThePlaceMarkedOrNotWhateverElseWrong)

/-- 'zzlaws_root_b1.FnPendingIsItsOwnInverseAndSwapsSign': WHATEVER THE INPUT: true; the input reads as it did. -/
def fnPendingIsItsOwnInverseAndSwapsSignSpec : ChangeSpec := { name := "fnPendingIsItsOwnInverseAndSwapsSign", fn := fun _ => fun
  | [d] => { results := [.lit (.bool true)], args := [d] }
  | _ => none }
def fnPendingIsItsOwnInverseAndSwapsSignRow : OpenClaim := { program := "qxb6608879a", sum := "a186ae6aed1d80b06b40e707c4e1e68dca7ee8be7786d70126624ac2a2ca9fcc", func := "example.com/replicheck/replicheck/zzlaws_root_b1.FnPendingIsItsOwnInverseAndSwapsSign", spec := "fnPendingIsItsOwnInverseAndSwapsSign", apart := false }
def FnPendingIsItsOwnInverseAndSwapsSignSaid : Prop := fnPendingIsItsOwnInverseAndSwapsSignRow.holds Try.pinned (OpenSpec.ofChange fnPendingIsItsOwnInverseAndSwapsSignSpec)

/-- ITS FALSE NEIGHBOUR: 'it returns false'. Refute it at one input. -/
def fnPendingIsItsOwnInverseAndSwapsSignWrong : ChangeSpec := { name := "fnPendingIsItsOwnInverseAndSwapsSign", fn := fun _ => fun
  | [d] => { results := [.lit (.bool false)], args := [d] }
  | _ => none }
def FnPendingIsItsOwnInverseAndSwapsSignWrongFalsely : Prop := fnPendingIsItsOwnInverseAndSwapsSignRow.holds Try.pinned (OpenSpec.ofChange fnPendingIsItsOwnInverseAndSwapsSignWrong)

/-- 'zzlaws_root_b1.FnPendingReversesOrderWithExactGaps': WHATEVER THE INPUT: true; the input reads as it did. -/
def fnPendingReversesOrderWithExactGapsSpec : ChangeSpec := { name := "fnPendingReversesOrderWithExactGaps", fn := fun _ => fun
  | [d1, d2] => { results := [.lit (.bool true)], args := [d1, d2] }
  | _ => none }
def fnPendingReversesOrderWithExactGapsRow : OpenClaim := { program := "qxb6608879a", sum := "a186ae6aed1d80b06b40e707c4e1e68dca7ee8be7786d70126624ac2a2ca9fcc", func := "example.com/replicheck/replicheck/zzlaws_root_b1.FnPendingReversesOrderWithExactGaps", spec := "fnPendingReversesOrderWithExactGaps", apart := false }
def FnPendingReversesOrderWithExactGapsSaid : Prop := fnPendingReversesOrderWithExactGapsRow.holds Try.pinned (OpenSpec.ofChange fnPendingReversesOrderWithExactGapsSpec)

/-- ITS FALSE NEIGHBOUR: 'it returns false'. Refute it at one input. -/
def fnPendingReversesOrderWithExactGapsWrong : ChangeSpec := { name := "fnPendingReversesOrderWithExactGaps", fn := fun _ => fun
  | [d1, d2] => { results := [.lit (.bool false)], args := [d1, d2] }
  | _ => none }
def FnPendingReversesOrderWithExactGapsWrongFalsely : Prop := fnPendingReversesOrderWithExactGapsRow.holds Try.pinned (OpenSpec.ofChange fnPendingReversesOrderWithExactGapsWrong)

/-- 'zzlaws_root_b1.FnGraphStepScriptAppendsTheOtherTargets': WHATEVER THE INPUT: true; the input reads as it did. -/
def fnGraphStepScriptAppendsTheOtherTargetsSpec : ChangeSpec := { name := "fnGraphStepScriptAppendsTheOtherTargets", fn := fun _ => fun
  | [d1, d2, d3, d4, d5, d6, d7, d8] => { results := [.lit (.bool true)], args := [d1, d2, d3, d4, d5, d6, d7, d8] }
  | _ => none }
def fnGraphStepScriptAppendsTheOtherTargetsRow : OpenClaim := { program := "qxb6608879a", sum := "a186ae6aed1d80b06b40e707c4e1e68dca7ee8be7786d70126624ac2a2ca9fcc", func := "example.com/replicheck/replicheck/zzlaws_root_b1.FnGraphStepScriptAppendsTheOtherTargets", spec := "fnGraphStepScriptAppendsTheOtherTargets", apart := false }
def FnGraphStepScriptAppendsTheOtherTargetsSaid : Prop := fnGraphStepScriptAppendsTheOtherTargetsRow.holds Try.pinned (OpenSpec.ofChange fnGraphStepScriptAppendsTheOtherTargetsSpec)

/-- ITS FALSE NEIGHBOUR: 'it returns false'. Refute it at one input. -/
def fnGraphStepScriptAppendsTheOtherTargetsWrong : ChangeSpec := { name := "fnGraphStepScriptAppendsTheOtherTargets", fn := fun _ => fun
  | [d1, d2, d3, d4, d5, d6, d7, d8] => { results := [.lit (.bool false)], args := [d1, d2, d3, d4, d5, d6, d7, d8] }
  | _ => none }
def FnGraphStepScriptAppendsTheOtherTargetsWrongFalsely : Prop := fnGraphStepScriptAppendsTheOtherTargetsRow.holds Try.pinned (OpenSpec.ofChange fnGraphStepScriptAppendsTheOtherTargetsWrong)

/-- 'zzlaws_root_b1.FnGraphSelfStepAnywhereIsDropped': WHATEVER THE INPUT: true; the input reads as it did. -/
def fnGraphSelfStepAnywhereIsDroppedSpec : ChangeSpec := { name := "fnGraphSelfStepAnywhereIsDropped", fn := fun _ => fun
  | [d1, d2, d3, d4, d5, d6, d7, d8, d9] => { results := [.lit (.bool true)], args := [d1, d2, d3, d4, d5, d6, d7, d8, d9] }
  | _ => none }
def fnGraphSelfStepAnywhereIsDroppedRow : OpenClaim := { program := "qxb6608879a", sum := "a186ae6aed1d80b06b40e707c4e1e68dca7ee8be7786d70126624ac2a2ca9fcc", func := "example.com/replicheck/replicheck/zzlaws_root_b1.FnGraphSelfStepAnywhereIsDropped", spec := "fnGraphSelfStepAnywhereIsDropped", apart := false }
def FnGraphSelfStepAnywhereIsDroppedSaid : Prop := fnGraphSelfStepAnywhereIsDroppedRow.holds Try.pinned (OpenSpec.ofChange fnGraphSelfStepAnywhereIsDroppedSpec)

/-- ITS FALSE NEIGHBOUR: 'it returns false'. Refute it at one input. -/
def fnGraphSelfStepAnywhereIsDroppedWrong : ChangeSpec := { name := "fnGraphSelfStepAnywhereIsDropped", fn := fun _ => fun
  | [d1, d2, d3, d4, d5, d6, d7, d8, d9] => { results := [.lit (.bool false)], args := [d1, d2, d3, d4, d5, d6, d7, d8, d9] }
  | _ => none }
def FnGraphSelfStepAnywhereIsDroppedWrongFalsely : Prop := fnGraphSelfStepAnywhereIsDroppedRow.holds Try.pinned (OpenSpec.ofChange fnGraphSelfStepAnywhereIsDroppedWrong)

/-- 'zzlaws_root_b1.FnKeyTableKeyReadsTheDocumentedRecord': WHATEVER THE INPUT: true; the input reads as it did. -/
def fnKeyTableKeyReadsTheDocumentedRecordSpec : ChangeSpec := { name := "fnKeyTableKeyReadsTheDocumentedRecord", fn := fun _ => fun
  | [d1, d2, d3, d4] => { results := [.lit (.bool true)], args := [d1, d2, d3, d4] }
  | _ => none }
def fnKeyTableKeyReadsTheDocumentedRecordRow : OpenClaim := { program := "qxb6608879a", sum := "a186ae6aed1d80b06b40e707c4e1e68dca7ee8be7786d70126624ac2a2ca9fcc", func := "example.com/replicheck/replicheck/zzlaws_root_b1.FnKeyTableKeyReadsTheDocumentedRecord", spec := "fnKeyTableKeyReadsTheDocumentedRecord", apart := false }
def FnKeyTableKeyReadsTheDocumentedRecordSaid : Prop := fnKeyTableKeyReadsTheDocumentedRecordRow.holds Try.pinned (OpenSpec.ofChange fnKeyTableKeyReadsTheDocumentedRecordSpec)

/-- ITS FALSE NEIGHBOUR: 'it returns false'. Refute it at one input. -/
def fnKeyTableKeyReadsTheDocumentedRecordWrong : ChangeSpec := { name := "fnKeyTableKeyReadsTheDocumentedRecord", fn := fun _ => fun
  | [d1, d2, d3, d4] => { results := [.lit (.bool false)], args := [d1, d2, d3, d4] }
  | _ => none }
def FnKeyTableKeyReadsTheDocumentedRecordWrongFalsely : Prop := fnKeyTableKeyReadsTheDocumentedRecordRow.holds Try.pinned (OpenSpec.ofChange fnKeyTableKeyReadsTheDocumentedRecordWrong)

end Rows
end Go.Proofs.Qxb6608879a
