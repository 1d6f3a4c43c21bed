/-
  No cell of these rows narrows 'for every input' (looked for: loops, veiled, ifaces, maps, wideKeys, modest, calm, conditions, laid).
  DERIVED. THE GIVEN ROWS OF THIS SEAT. 4 by the template 'for every input the law returns true; each argument reads behind the call as it read before'; 0 by the template 'total and deterministic' (their statements: Qxb6600139aTotals.lean).
  GIVEN WITH THE SEED: the statements are not yours to turn. If you find one false, say at which input.
  Laid BY PROGRAM, IN A SANDBOX (cutbox-rows.mjs): the forced cells as the released guide's own fill.sh prints them over the translation 3141c13a7ac6348f… (all of the seat's roots in one cut). By AI agents, Wed Nov 11 2026. No macro, syntax, notation, axiom, sorry.
-/
import Derived.Test.Qxb6600139aChecked
import GoSem.Claim
import GoSem.ClaimJoined
import GoSem.ClaimMapViews
import Derived.JoinedTies
import Derived.KernelRfl
namespace Go.Proofs.Qxb6600139a
/- THE CELL 'sum', in the pinned program and in every row, IS THE sha256 OF THE DUMP (.gsa) THAT Qxb6600139aProg.lean LOADS. Nothing in Lean hashes anything: it is a label: what it is worth is what the hold of that sum in a sandbox is worth. -/
noncomputable def Try.pinned : Pinned := { name := "qxb6600139a", sum := "3141c13a7ac6348f866319864d5e6cd161216e885f567a6996f4b2aba095e230", checked := Try.checked }
namespace Rows
def none {H : Type} : Left H := { results := [], args := [] }

/-- 'zzlaws_internal_terms_b1.FnLimitBoundHangsOnPercentagesAlone': WHATEVER THE INPUT: true; the input reads as it did. -/
def fnLimitBoundHangsOnPercentagesAloneSpec : ChangeSpec := { name := "fnLimitBoundHangsOnPercentagesAlone", fn := fun _ => fun
  | [d1, d2, d3, d4, d5, d6, d7, d8] => { results := [.lit (.bool true)], args := [d1, d2, d3, d4, d5, d6, d7, d8] }
  | _ => none }
def fnLimitBoundHangsOnPercentagesAloneRow : OpenClaim := { program := "qxb6600139a", sum := "3141c13a7ac6348f866319864d5e6cd161216e885f567a6996f4b2aba095e230", func := "example.com/trustkeep/trustkeep/zzlaws_internal_terms_b1.FnLimitBoundHangsOnPercentagesAlone", spec := "fnLimitBoundHangsOnPercentagesAlone", apart := false }
def FnLimitBoundHangsOnPercentagesAloneSaid : Prop := fnLimitBoundHangsOnPercentagesAloneRow.holds Try.pinned (OpenSpec.ofChange fnLimitBoundHangsOnPercentagesAloneSpec)

/-- ITS FALSE NEIGHBOUR: 'it returns false'. Refute it at one input. -/
def fnLimitBoundHangsOnPercentagesAloneWrong : ChangeSpec := { name := "fnLimitBoundHangsOnPercentagesAlone", fn := fun _ => fun
  | [d1, d2, d3, d4, d5, d6, d7, d8] => { results := [.lit (.bool false)], args := [d1, d2, d3, d4, d5, d6, d7, d8] }
  | _ => none }
def FnLimitBoundHangsOnPercentagesAloneWrongFalsely : Prop := fnLimitBoundHangsOnPercentagesAloneRow.holds Try.pinned (OpenSpec.ofChange fnLimitBoundHangsOnPercentagesAloneWrong)

/-- 'zzlaws_internal_terms_b1.FnLimitBoundRoundTrip': WHATEVER THE INPUT: true; the input reads as it did. -/
def fnLimitBoundRoundTripSpec : ChangeSpec := { name := "fnLimitBoundRoundTrip", fn := fun _ => fun
  | [d1, d2] => { results := [.lit (.bool true)], args := [d1, d2] }
  | _ => none }
def fnLimitBoundRoundTripRow : OpenClaim := { program := "qxb6600139a", sum := "3141c13a7ac6348f866319864d5e6cd161216e885f567a6996f4b2aba095e230", func := "example.com/trustkeep/trustkeep/zzlaws_internal_terms_b1.FnLimitBoundRoundTrip", spec := "fnLimitBoundRoundTrip", apart := false }
def FnLimitBoundRoundTripSaid : Prop := fnLimitBoundRoundTripRow.holds Try.pinned (OpenSpec.ofChange fnLimitBoundRoundTripSpec)

/-- ITS FALSE NEIGHBOUR: 'it returns false'. Refute it at one input. -/
def fnLimitBoundRoundTripWrong : ChangeSpec := { name := "fnLimitBoundRoundTrip", fn := fun _ => fun
  | [d1, d2] => { results := [.lit (.bool false)], args := [d1, d2] }
  | _ => none }
def FnLimitBoundRoundTripWrongFalsely : Prop := fnLimitBoundRoundTripRow.holds Try.pinned (OpenSpec.ofChange fnLimitBoundRoundTripWrong)

/-- 'zzlaws_internal_terms_b1.FnMeasureWholePicksOneNamedAmount': WHATEVER THE INPUT: true; the input reads as it did. -/
def fnMeasureWholePicksOneNamedAmountSpec : ChangeSpec := { name := "fnMeasureWholePicksOneNamedAmount", fn := fun _ => fun
  | [d1, d2, d3, d4, d5, d6, d7] => { results := [.lit (.bool true)], args := [d1, d2, d3, d4, d5, d6, d7] }
  | _ => none }
def fnMeasureWholePicksOneNamedAmountRow : OpenClaim := { program := "qxb6600139a", sum := "3141c13a7ac6348f866319864d5e6cd161216e885f567a6996f4b2aba095e230", func := "example.com/trustkeep/trustkeep/zzlaws_internal_terms_b1.FnMeasureWholePicksOneNamedAmount", spec := "fnMeasureWholePicksOneNamedAmount", apart := false }
def FnMeasureWholePicksOneNamedAmountSaid : Prop := fnMeasureWholePicksOneNamedAmountRow.holds Try.pinned (OpenSpec.ofChange fnMeasureWholePicksOneNamedAmountSpec)

/-- ITS FALSE NEIGHBOUR: 'it returns false'. Refute it at one input. -/
def fnMeasureWholePicksOneNamedAmountWrong : ChangeSpec := { name := "fnMeasureWholePicksOneNamedAmount", fn := fun _ => fun
  | [d1, d2, d3, d4, d5, d6, d7] => { results := [.lit (.bool false)], args := [d1, d2, d3, d4, d5, d6, d7] }
  | _ => none }
def FnMeasureWholePicksOneNamedAmountWrongFalsely : Prop := fnMeasureWholePicksOneNamedAmountRow.holds Try.pinned (OpenSpec.ofChange fnMeasureWholePicksOneNamedAmountWrong)

/-- 'zzlaws_internal_terms_b1.FnMeasureWholeHangsOnOverNAVAlone': WHATEVER THE INPUT: true; the input reads as it did. -/
def fnMeasureWholeHangsOnOverNAVAloneSpec : ChangeSpec := { name := "fnMeasureWholeHangsOnOverNAVAlone", fn := fun _ => fun
  | [d1, d2, d3, d4, d5, d6, d7] => { results := [.lit (.bool true)], args := [d1, d2, d3, d4, d5, d6, d7] }
  | _ => none }
def fnMeasureWholeHangsOnOverNAVAloneRow : OpenClaim := { program := "qxb6600139a", sum := "3141c13a7ac6348f866319864d5e6cd161216e885f567a6996f4b2aba095e230", func := "example.com/trustkeep/trustkeep/zzlaws_internal_terms_b1.FnMeasureWholeHangsOnOverNAVAlone", spec := "fnMeasureWholeHangsOnOverNAVAlone", apart := false }
def FnMeasureWholeHangsOnOverNAVAloneSaid : Prop := fnMeasureWholeHangsOnOverNAVAloneRow.holds Try.pinned (OpenSpec.ofChange fnMeasureWholeHangsOnOverNAVAloneSpec)

/-- ITS FALSE NEIGHBOUR: 'it returns false'. Refute it at one input. -/
def fnMeasureWholeHangsOnOverNAVAloneWrong : ChangeSpec := { name := "fnMeasureWholeHangsOnOverNAVAlone", fn := fun _ => fun
  | [d1, d2, d3, d4, d5, d6, d7] => { results := [.lit (.bool false)], args := [d1, d2, d3, d4, d5, d6, d7] }
  | _ => none }
def FnMeasureWholeHangsOnOverNAVAloneWrongFalsely : Prop := fnMeasureWholeHangsOnOverNAVAloneRow.holds Try.pinned (OpenSpec.ofChange fnMeasureWholeHangsOnOverNAVAloneWrong)

end Rows
end Go.Proofs.Qxb6600139a
