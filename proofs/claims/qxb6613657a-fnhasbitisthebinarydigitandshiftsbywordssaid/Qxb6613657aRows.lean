/-
  No cell of these rows narrows 'for every input' (looked for: loops, veiled, ifaces, maps, wideKeys, modest, calm, conditions, laid).
  DERIVED. THE GIVEN ROWS OF THIS SEAT. 6 by the template 'for every input the law returns true; each argument reads behind the call as it read before'; 0 by the template 'total and deterministic' (their statements: Qxb6613657aTotals.lean).
  GIVEN WITH THE SEED: the statements are not yours to turn. If you find one false, say at which input.
  Laid BY PROGRAM, IN A SANDBOX (cutbox-rows.mjs): the forced cells as the released guide's own fill.sh prints them over the translation 5a337a5849f63e13… (all of the seat's roots in one cut). By AI agents, Wed Nov 11 2026. No macro, syntax, notation, axiom, sorry.
-/
import Derived.Test.Qxb6613657aChecked
import GoSem.Claim
import GoSem.ClaimJoined
import GoSem.ClaimMapViews
import Derived.JoinedTies
import Derived.KernelRfl
namespace Go.Proofs.Qxb6613657a
/- THE CELL 'sum', in the pinned program and in every row, IS THE sha256 OF THE DUMP (.gsa) THAT Qxb6613657aProg.lean LOADS. Nothing in Lean hashes anything: it is a label: what it is worth is what the hold of that sum in a sandbox is worth. -/
noncomputable def Try.pinned : Pinned := { name := "qxb6613657a", sum := "5a337a5849f63e13ec23f87cad984c5574ba257d93be076b0fd52f268cd4bf25", checked := Try.checked }
namespace Rows
def none {H : Type} : Left H := { results := [], args := [] }

/-- 'zzlaws_root_b1.FnOpHeapSwapExchangesThenUndoes': WHATEVER THE INPUT: true; the input reads as it did. -/
def fnOpHeapSwapExchangesThenUndoesSpec : ChangeSpec := { name := "fnOpHeapSwapExchangesThenUndoes", fn := fun _ => fun
  | [d1, d2, d3, d4] => { results := [.lit (.bool true)], args := [d1, d2, d3, d4] }
  | _ => none }
def fnOpHeapSwapExchangesThenUndoesRow : OpenClaim := { program := "qxb6613657a", sum := "5a337a5849f63e13ec23f87cad984c5574ba257d93be076b0fd52f268cd4bf25", func := "example.com/visar/visar/zzlaws_root_b1.FnOpHeapSwapExchangesThenUndoes", spec := "fnOpHeapSwapExchangesThenUndoes", apart := false }
def FnOpHeapSwapExchangesThenUndoesSaid : Prop := fnOpHeapSwapExchangesThenUndoesRow.holds Try.pinned (OpenSpec.ofChange fnOpHeapSwapExchangesThenUndoesSpec)

/-- ITS FALSE NEIGHBOUR: 'it returns false'. Refute it at one input. -/
def fnOpHeapSwapExchangesThenUndoesWrong : ChangeSpec := { name := "fnOpHeapSwapExchangesThenUndoes", fn := fun _ => fun
  | [d1, d2, d3, d4] => { results := [.lit (.bool false)], args := [d1, d2, d3, d4] }
  | _ => none }
def FnOpHeapSwapExchangesThenUndoesWrongFalsely : Prop := fnOpHeapSwapExchangesThenUndoesRow.holds Try.pinned (OpenSpec.ofChange fnOpHeapSwapExchangesThenUndoesWrong)

/-- 'zzlaws_root_b1.FnOpHeapSwapThreeTimesIsOneSwap': WHATEVER THE INPUT: true; the input reads as it did. -/
def fnOpHeapSwapThreeTimesIsOneSwapSpec : ChangeSpec := { name := "fnOpHeapSwapThreeTimesIsOneSwap", fn := fun _ => fun
  | [d1, d2, d3, d4, d5] => { results := [.lit (.bool true)], args := [d1, d2, d3, d4, d5] }
  | _ => none }
def fnOpHeapSwapThreeTimesIsOneSwapRow : OpenClaim := { program := "qxb6613657a", sum := "5a337a5849f63e13ec23f87cad984c5574ba257d93be076b0fd52f268cd4bf25", func := "example.com/visar/visar/zzlaws_root_b1.FnOpHeapSwapThreeTimesIsOneSwap", spec := "fnOpHeapSwapThreeTimesIsOneSwap", apart := false }
def FnOpHeapSwapThreeTimesIsOneSwapSaid : Prop := fnOpHeapSwapThreeTimesIsOneSwapRow.holds Try.pinned (OpenSpec.ofChange fnOpHeapSwapThreeTimesIsOneSwapSpec)

/-- ITS FALSE NEIGHBOUR: 'it returns false'. Refute it at one input. -/
def fnOpHeapSwapThreeTimesIsOneSwapWrong : ChangeSpec := { name := "fnOpHeapSwapThreeTimesIsOneSwap", fn := fun _ => fun
  | [d1, d2, d3, d4, d5] => { results := [.lit (.bool false)], args := [d1, d2, d3, d4, d5] }
  | _ => none }
def FnOpHeapSwapThreeTimesIsOneSwapWrongFalsely : Prop := fnOpHeapSwapThreeTimesIsOneSwapRow.holds Try.pinned (OpenSpec.ofChange fnOpHeapSwapThreeTimesIsOneSwapWrong)

/-- 'zzlaws_root_b1.FnHasBitRebuildsWord': WHATEVER THE INPUT: true; the input reads as it did. -/
def fnHasBitRebuildsWordSpec : ChangeSpec := { name := "fnHasBitRebuildsWord", fn := fun _ => fun
  | [d1, d2] => { results := [.lit (.bool true)], args := [d1, d2] }
  | _ => none }
def fnHasBitRebuildsWordRow : OpenClaim := { program := "qxb6613657a", sum := "5a337a5849f63e13ec23f87cad984c5574ba257d93be076b0fd52f268cd4bf25", func := "example.com/visar/visar/zzlaws_root_b1.FnHasBitRebuildsWord", spec := "fnHasBitRebuildsWord", apart := false }
def FnHasBitRebuildsWordSaid : Prop := fnHasBitRebuildsWordRow.holds Try.pinned (OpenSpec.ofChange fnHasBitRebuildsWordSpec)

/-- ITS FALSE NEIGHBOUR: 'it returns false'. Refute it at one input. -/
def fnHasBitRebuildsWordWrong : ChangeSpec := { name := "fnHasBitRebuildsWord", fn := fun _ => fun
  | [d1, d2] => { results := [.lit (.bool false)], args := [d1, d2] }
  | _ => none }
def FnHasBitRebuildsWordWrongFalsely : Prop := fnHasBitRebuildsWordRow.holds Try.pinned (OpenSpec.ofChange fnHasBitRebuildsWordWrong)

/-- 'zzlaws_root_b1.FnHasBitIsTheBinaryDigitAndShiftsByWords': WHATEVER THE INPUT: true; the input reads as it did. -/
def fnHasBitIsTheBinaryDigitAndShiftsByWordsSpec : ChangeSpec := { name := "fnHasBitIsTheBinaryDigitAndShiftsByWords", fn := fun _ => fun
  | [d1, d2] => { results := [.lit (.bool true)], args := [d1, d2] }
  | _ => none }
def fnHasBitIsTheBinaryDigitAndShiftsByWordsRow : OpenClaim := { program := "qxb6613657a", sum := "5a337a5849f63e13ec23f87cad984c5574ba257d93be076b0fd52f268cd4bf25", func := "example.com/visar/visar/zzlaws_root_b1.FnHasBitIsTheBinaryDigitAndShiftsByWords", spec := "fnHasBitIsTheBinaryDigitAndShiftsByWords", apart := false }
def FnHasBitIsTheBinaryDigitAndShiftsByWordsSaid : Prop := fnHasBitIsTheBinaryDigitAndShiftsByWordsRow.holds Try.pinned (OpenSpec.ofChange fnHasBitIsTheBinaryDigitAndShiftsByWordsSpec)

/-- ITS FALSE NEIGHBOUR: 'it returns false'. Refute it at one input. -/
def fnHasBitIsTheBinaryDigitAndShiftsByWordsWrong : ChangeSpec := { name := "fnHasBitIsTheBinaryDigitAndShiftsByWords", fn := fun _ => fun
  | [d1, d2] => { results := [.lit (.bool false)], args := [d1, d2] }
  | _ => none }
def FnHasBitIsTheBinaryDigitAndShiftsByWordsWrongFalsely : Prop := fnHasBitIsTheBinaryDigitAndShiftsByWordsRow.holds Try.pinned (OpenSpec.ofChange fnHasBitIsTheBinaryDigitAndShiftsByWordsWrong)

/-- 'zzlaws_root_b1.FnUpdateAtGivesTheFirstUpdateAtThePlace': WHATEVER THE INPUT: true; the input reads as it did. -/
def fnUpdateAtGivesTheFirstUpdateAtThePlaceSpec : ChangeSpec := { name := "fnUpdateAtGivesTheFirstUpdateAtThePlace", fn := fun _ => fun
  | [d1, d2] => { results := [.lit (.bool true)], args := [d1, d2] }
  | _ => none }
def fnUpdateAtGivesTheFirstUpdateAtThePlaceRow : OpenClaim := { program := "qxb6613657a", sum := "5a337a5849f63e13ec23f87cad984c5574ba257d93be076b0fd52f268cd4bf25", func := "example.com/visar/visar/zzlaws_root_b1.FnUpdateAtGivesTheFirstUpdateAtThePlace", spec := "fnUpdateAtGivesTheFirstUpdateAtThePlace", unfollowed := true, recurses := true, apart := false }
def FnUpdateAtGivesTheFirstUpdateAtThePlaceSaid : Prop := fnUpdateAtGivesTheFirstUpdateAtThePlaceRow.holds Try.pinned (OpenSpec.ofChange fnUpdateAtGivesTheFirstUpdateAtThePlaceSpec)

/-- ITS FALSE NEIGHBOUR: 'it returns false'. Refute it at one input. -/
def fnUpdateAtGivesTheFirstUpdateAtThePlaceWrong : ChangeSpec := { name := "fnUpdateAtGivesTheFirstUpdateAtThePlace", fn := fun _ => fun
  | [d1, d2] => { results := [.lit (.bool false)], args := [d1, d2] }
  | _ => none }
def FnUpdateAtGivesTheFirstUpdateAtThePlaceWrongFalsely : Prop := fnUpdateAtGivesTheFirstUpdateAtThePlaceRow.holds Try.pinned (OpenSpec.ofChange fnUpdateAtGivesTheFirstUpdateAtThePlaceWrong)

/-- 'zzlaws_root_b1.FnUpdateAtAgreesOnTheCutThatHoldsIt': WHATEVER THE INPUT: true; the input reads as it did. -/
def fnUpdateAtAgreesOnTheCutThatHoldsItSpec : ChangeSpec := { name := "fnUpdateAtAgreesOnTheCutThatHoldsIt", fn := fun _ => fun
  | [d1, d2, d3] => { results := [.lit (.bool true)], args := [d1, d2, d3] }
  | _ => none }
def fnUpdateAtAgreesOnTheCutThatHoldsItRow : OpenClaim := { program := "qxb6613657a", sum := "5a337a5849f63e13ec23f87cad984c5574ba257d93be076b0fd52f268cd4bf25", func := "example.com/visar/visar/zzlaws_root_b1.FnUpdateAtAgreesOnTheCutThatHoldsIt", spec := "fnUpdateAtAgreesOnTheCutThatHoldsIt", unfollowed := true, recurses := true, apart := false }
def FnUpdateAtAgreesOnTheCutThatHoldsItSaid : Prop := fnUpdateAtAgreesOnTheCutThatHoldsItRow.holds Try.pinned (OpenSpec.ofChange fnUpdateAtAgreesOnTheCutThatHoldsItSpec)

/-- ITS FALSE NEIGHBOUR: 'it returns false'. Refute it at one input. -/
def fnUpdateAtAgreesOnTheCutThatHoldsItWrong : ChangeSpec := { name := "fnUpdateAtAgreesOnTheCutThatHoldsIt", fn := fun _ => fun
  | [d1, d2, d3] => { results := [.lit (.bool false)], args := [d1, d2, d3] }
  | _ => none }
def FnUpdateAtAgreesOnTheCutThatHoldsItWrongFalsely : Prop := fnUpdateAtAgreesOnTheCutThatHoldsItRow.holds Try.pinned (OpenSpec.ofChange fnUpdateAtAgreesOnTheCutThatHoldsItWrong)

end Rows
end Go.Proofs.Qxb6613657a
