/-
  No cell of these rows narrows 'for every input' (looked for: loops, veiled, ifaces, maps, wideKeys, modest, calm, conditions, laid).
  DERIVED. THE GIVEN ROWS OF THIS SEAT. 6 by the template 'for every input the law returns true; each argument reads behind the call as it read before'; 0 by the template 'total and deterministic' (their statements: Qxb6602909aTotals.lean).
  GIVEN WITH THE SEED: the statements are not yours to turn. If you find one false, say at which input.
  Laid BY PROGRAM, IN A SANDBOX (cutbox-rows.mjs): the forced cells as the released guide's own fill.sh prints them over the translation 4d36e74b0d9a2302… (all of the seat's roots in one cut). By AI agents, Wed Nov 11 2026. No macro, syntax, notation, axiom, sorry.
-/
import Derived.Test.Qxb6602909aChecked
import GoSem.Claim
import GoSem.ClaimJoined
import GoSem.ClaimMapViews
import Derived.JoinedTies
import Derived.KernelRfl
namespace Go.Proofs.Qxb6602909a
/- THE CELL 'sum', in the pinned program and in every row, IS THE sha256 OF THE DUMP (.gsa) THAT Qxb6602909aProg.lean LOADS. Nothing in Lean hashes anything: it is a label: what it is worth is what the hold of that sum in a sandbox is worth. -/
noncomputable def Try.pinned : Pinned := { name := "qxb6602909a", sum := "4d36e74b0d9a23028bcf3999038fd7021e07ed08659338e8f45da38157880ce1", checked := Try.checked }
namespace Rows
def none {H : Type} : Left H := { results := [], args := [] }

/-- 'zzlaws_decimal_b1.FnAppendScaledMatchesPositionModel': WHATEVER THE INPUT: true; the input reads as it did. -/
def fnAppendScaledMatchesPositionModelSpec : ChangeSpec := { name := "fnAppendScaledMatchesPositionModel", fn := fun _ => fun
  | [d1, d2, d3, d4] => { results := [.lit (.bool true)], args := [d1, d2, d3, d4] }
  | _ => none }
def fnAppendScaledMatchesPositionModelRow : OpenClaim := { program := "qxb6602909a", sum := "4d36e74b0d9a23028bcf3999038fd7021e07ed08659338e8f45da38157880ce1", func := "example.com/tidemark/tidemark/zzlaws_decimal_b1.FnAppendScaledMatchesPositionModel", spec := "fnAppendScaledMatchesPositionModel", apart := false }
def FnAppendScaledMatchesPositionModelSaid : Prop := fnAppendScaledMatchesPositionModelRow.holds Try.pinned (OpenSpec.ofChange fnAppendScaledMatchesPositionModelSpec)

/-- ITS FALSE NEIGHBOUR: 'it returns false'. Refute it at one input. -/
def fnAppendScaledMatchesPositionModelWrong : ChangeSpec := { name := "fnAppendScaledMatchesPositionModel", fn := fun _ => fun
  | [d1, d2, d3, d4] => { results := [.lit (.bool false)], args := [d1, d2, d3, d4] }
  | _ => none }
def FnAppendScaledMatchesPositionModelWrongFalsely : Prop := fnAppendScaledMatchesPositionModelRow.holds Try.pinned (OpenSpec.ofChange fnAppendScaledMatchesPositionModelWrong)

/-- 'zzlaws_decimal_b1.FnAppendScaledTrailingZeroShift': WHATEVER THE INPUT: true; the input reads as it did. -/
def fnAppendScaledTrailingZeroShiftSpec : ChangeSpec := { name := "fnAppendScaledTrailingZeroShift", fn := fun _ => fun
  | [d1, d2, d3, d4] => { results := [.lit (.bool true)], args := [d1, d2, d3, d4] }
  | _ => none }
def fnAppendScaledTrailingZeroShiftRow : OpenClaim := { program := "qxb6602909a", sum := "4d36e74b0d9a23028bcf3999038fd7021e07ed08659338e8f45da38157880ce1", func := "example.com/tidemark/tidemark/zzlaws_decimal_b1.FnAppendScaledTrailingZeroShift", spec := "fnAppendScaledTrailingZeroShift", apart := false }
def FnAppendScaledTrailingZeroShiftSaid : Prop := fnAppendScaledTrailingZeroShiftRow.holds Try.pinned (OpenSpec.ofChange fnAppendScaledTrailingZeroShiftSpec)

/-- ITS FALSE NEIGHBOUR: 'it returns false'. Refute it at one input. -/
def fnAppendScaledTrailingZeroShiftWrong : ChangeSpec := { name := "fnAppendScaledTrailingZeroShift", fn := fun _ => fun
  | [d1, d2, d3, d4] => { results := [.lit (.bool false)], args := [d1, d2, d3, d4] }
  | _ => none }
def FnAppendScaledTrailingZeroShiftWrongFalsely : Prop := fnAppendScaledTrailingZeroShiftRow.holds Try.pinned (OpenSpec.ofChange fnAppendScaledTrailingZeroShiftWrong)

/-- 'zzlaws_decimal_b1.FnRoundsAwayMatchesTenthsRounding': WHATEVER THE INPUT: true; the input reads as it did. -/
def fnRoundsAwayMatchesTenthsRoundingSpec : ChangeSpec := { name := "fnRoundsAwayMatchesTenthsRounding", fn := fun _ => fun
  | [d1, d2, d3, d4, d5] => { results := [.lit (.bool true)], args := [d1, d2, d3, d4, d5] }
  | _ => none }
def fnRoundsAwayMatchesTenthsRoundingRow : OpenClaim := { program := "qxb6602909a", sum := "4d36e74b0d9a23028bcf3999038fd7021e07ed08659338e8f45da38157880ce1", func := "example.com/tidemark/tidemark/zzlaws_decimal_b1.FnRoundsAwayMatchesTenthsRounding", spec := "fnRoundsAwayMatchesTenthsRounding", apart := false }
def FnRoundsAwayMatchesTenthsRoundingSaid : Prop := fnRoundsAwayMatchesTenthsRoundingRow.holds Try.pinned (OpenSpec.ofChange fnRoundsAwayMatchesTenthsRoundingSpec)

/-- ITS FALSE NEIGHBOUR: 'it returns false'. Refute it at one input. -/
def fnRoundsAwayMatchesTenthsRoundingWrong : ChangeSpec := { name := "fnRoundsAwayMatchesTenthsRounding", fn := fun _ => fun
  | [d1, d2, d3, d4, d5] => { results := [.lit (.bool false)], args := [d1, d2, d3, d4, d5] }
  | _ => none }
def FnRoundsAwayMatchesTenthsRoundingWrongFalsely : Prop := fnRoundsAwayMatchesTenthsRoundingRow.holds Try.pinned (OpenSpec.ofChange fnRoundsAwayMatchesTenthsRoundingWrong)

/-- 'zzlaws_decimal_b1.FnRoundsAwayMirrorSymmetry': WHATEVER THE INPUT: true; the input reads as it did. -/
def fnRoundsAwayMirrorSymmetrySpec : ChangeSpec := { name := "fnRoundsAwayMirrorSymmetry", fn := fun _ => fun
  | [d1, d2, d3, d4] => { results := [.lit (.bool true)], args := [d1, d2, d3, d4] }
  | _ => none }
def fnRoundsAwayMirrorSymmetryRow : OpenClaim := { program := "qxb6602909a", sum := "4d36e74b0d9a23028bcf3999038fd7021e07ed08659338e8f45da38157880ce1", func := "example.com/tidemark/tidemark/zzlaws_decimal_b1.FnRoundsAwayMirrorSymmetry", spec := "fnRoundsAwayMirrorSymmetry", apart := false }
def FnRoundsAwayMirrorSymmetrySaid : Prop := fnRoundsAwayMirrorSymmetryRow.holds Try.pinned (OpenSpec.ofChange fnRoundsAwayMirrorSymmetrySpec)

/-- ITS FALSE NEIGHBOUR: 'it returns false'. Refute it at one input. -/
def fnRoundsAwayMirrorSymmetryWrong : ChangeSpec := { name := "fnRoundsAwayMirrorSymmetry", fn := fun _ => fun
  | [d1, d2, d3, d4] => { results := [.lit (.bool false)], args := [d1, d2, d3, d4] }
  | _ => none }
def FnRoundsAwayMirrorSymmetryWrongFalsely : Prop := fnRoundsAwayMirrorSymmetryRow.holds Try.pinned (OpenSpec.ofChange fnRoundsAwayMirrorSymmetryWrong)

/-- 'zzlaws_decimal_b1.FnAppendPlacesParsesBack': WHATEVER THE INPUT: true; the input reads as it did. -/
def fnAppendPlacesParsesBackSpec : ChangeSpec := { name := "fnAppendPlacesParsesBack", fn := fun _ => fun
  | [d1, d2, d3, d4] => { results := [.lit (.bool true)], args := [d1, d2, d3, d4] }
  | _ => none }
def fnAppendPlacesParsesBackRow : OpenClaim := { program := "qxb6602909a", sum := "4d36e74b0d9a23028bcf3999038fd7021e07ed08659338e8f45da38157880ce1", func := "example.com/tidemark/tidemark/zzlaws_decimal_b1.FnAppendPlacesParsesBack", spec := "fnAppendPlacesParsesBack", apart := false }
def FnAppendPlacesParsesBackSaid : Prop := fnAppendPlacesParsesBackRow.holds Try.pinned (OpenSpec.ofChange fnAppendPlacesParsesBackSpec)

/-- ITS FALSE NEIGHBOUR: 'it returns false'. Refute it at one input. -/
def fnAppendPlacesParsesBackWrong : ChangeSpec := { name := "fnAppendPlacesParsesBack", fn := fun _ => fun
  | [d1, d2, d3, d4] => { results := [.lit (.bool false)], args := [d1, d2, d3, d4] }
  | _ => none }
def FnAppendPlacesParsesBackWrongFalsely : Prop := fnAppendPlacesParsesBackRow.holds Try.pinned (OpenSpec.ofChange fnAppendPlacesParsesBackWrong)

/-- 'zzlaws_decimal_b1.FnAppendPlacesAgreesWithAppendScaled': WHATEVER THE INPUT: true; the input reads as it did. -/
def fnAppendPlacesAgreesWithAppendScaledSpec : ChangeSpec := { name := "fnAppendPlacesAgreesWithAppendScaled", fn := fun _ => fun
  | [d1, d2, d3, d4] => { results := [.lit (.bool true)], args := [d1, d2, d3, d4] }
  | _ => none }
def fnAppendPlacesAgreesWithAppendScaledRow : OpenClaim := { program := "qxb6602909a", sum := "4d36e74b0d9a23028bcf3999038fd7021e07ed08659338e8f45da38157880ce1", func := "example.com/tidemark/tidemark/zzlaws_decimal_b1.FnAppendPlacesAgreesWithAppendScaled", spec := "fnAppendPlacesAgreesWithAppendScaled", apart := false }
def FnAppendPlacesAgreesWithAppendScaledSaid : Prop := fnAppendPlacesAgreesWithAppendScaledRow.holds Try.pinned (OpenSpec.ofChange fnAppendPlacesAgreesWithAppendScaledSpec)

/-- ITS FALSE NEIGHBOUR: 'it returns false'. Refute it at one input. -/
def fnAppendPlacesAgreesWithAppendScaledWrong : ChangeSpec := { name := "fnAppendPlacesAgreesWithAppendScaled", fn := fun _ => fun
  | [d1, d2, d3, d4] => { results := [.lit (.bool false)], args := [d1, d2, d3, d4] }
  | _ => none }
def FnAppendPlacesAgreesWithAppendScaledWrongFalsely : Prop := fnAppendPlacesAgreesWithAppendScaledRow.holds Try.pinned (OpenSpec.ofChange fnAppendPlacesAgreesWithAppendScaledWrong)

end Rows
end Go.Proofs.Qxb6602909a
