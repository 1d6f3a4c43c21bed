/-
  No cell of these rows narrows 'for every input' (looked for: loops, veiled, ifaces, maps, wideKeys, modest, calm, conditions, laid).
  DERIVED. THE GIVEN ROWS OF THIS SEAT. 5 by the template 'for every input the law returns true; each argument reads behind the call as it read before'; 0 by the template 'total and deterministic' (their statements: Qxb6600244aTotals.lean).
  GIVEN WITH THE SEED: the statements are not yours to turn. If you find one false, say at which input.
  Laid BY PROGRAM, IN A SANDBOX (cutbox-rows.mjs): the forced cells as the released guide's own fill.sh prints them over the translation 8560816c01deb885… (all of the seat's roots in one cut). By AI agents, Wed Nov 11 2026. No macro, syntax, notation, axiom, sorry.
-/
import Derived.Test.Qxb6600244aChecked
import GoSem.Claim
import GoSem.ClaimJoined
import GoSem.ClaimMapViews
import Derived.JoinedTies
import Derived.KernelRfl
namespace Go.Proofs.Qxb6600244a
/- THE CELL 'sum', in the pinned program and in every row, IS THE sha256 OF THE DUMP (.gsa) THAT Qxb6600244aProg.lean LOADS. Nothing in Lean hashes anything: it is a label: what it is worth is what the hold of that sum in a sandbox is worth. -/
noncomputable def Try.pinned : Pinned := { name := "qxb6600244a", sum := "8560816c01deb885f6ef5834135cd3a7828000de72e12e0f5443ed7b8ef1b325", checked := Try.checked }
namespace Rows
def none {H : Type} : Left H := { results := [], args := [] }

/-- 'zzlaws_cmd_chorale_kv_kv_b1.FnParseOpRoundTrip': WHATEVER THE INPUT: true; the input reads as it did. -/
def fnParseOpRoundTripSpec : ChangeSpec := { name := "fnParseOpRoundTrip", fn := fun _ => fun
  | [d1, d2, d3] => { results := [.lit (.bool true)], args := [d1, d2, d3] }
  | _ => none }
def fnParseOpRoundTripRow : OpenClaim := { program := "qxb6600244a", sum := "8560816c01deb885f6ef5834135cd3a7828000de72e12e0f5443ed7b8ef1b325", func := "example.com/chorale/chorale/zzlaws_cmd_chorale_kv_kv_b1.FnParseOpRoundTrip", spec := "fnParseOpRoundTrip", inPlace := ["internal/bytealg.IndexByte"], apart := false }
def FnParseOpRoundTripSaid : Prop := fnParseOpRoundTripRow.holds Try.pinned (OpenSpec.ofChange fnParseOpRoundTripSpec)

/-- ITS FALSE NEIGHBOUR: 'it returns false'. Refute it at one input. -/
def fnParseOpRoundTripWrong : ChangeSpec := { name := "fnParseOpRoundTrip", fn := fun _ => fun
  | [d1, d2, d3] => { results := [.lit (.bool false)], args := [d1, d2, d3] }
  | _ => none }
def FnParseOpRoundTripWrongFalsely : Prop := fnParseOpRoundTripRow.holds Try.pinned (OpenSpec.ofChange fnParseOpRoundTripWrong)

/-- 'zzlaws_cmd_chorale_kv_kv_b1.FnHeadRoundTrip': WHATEVER THE INPUT: true; the input reads as it did. -/
def fnHeadRoundTripSpec : ChangeSpec := { name := "fnHeadRoundTrip", fn := fun _ => fun
  | [d1, d2, d3, d4, d5] => { results := [.lit (.bool true)], args := [d1, d2, d3, d4, d5] }
  | _ => none }
def fnHeadRoundTripRow : OpenClaim := { program := "qxb6600244a", sum := "8560816c01deb885f6ef5834135cd3a7828000de72e12e0f5443ed7b8ef1b325", func := "example.com/chorale/chorale/zzlaws_cmd_chorale_kv_kv_b1.FnHeadRoundTrip", spec := "fnHeadRoundTrip", apart := false }
def FnHeadRoundTripSaid : Prop := fnHeadRoundTripRow.holds Try.pinned (OpenSpec.ofChange fnHeadRoundTripSpec)

/-- ITS FALSE NEIGHBOUR: 'it returns false'. Refute it at one input. -/
def fnHeadRoundTripWrong : ChangeSpec := { name := "fnHeadRoundTrip", fn := fun _ => fun
  | [d1, d2, d3, d4, d5] => { results := [.lit (.bool false)], args := [d1, d2, d3, d4, d5] }
  | _ => none }
def FnHeadRoundTripWrongFalsely : Prop := fnHeadRoundTripRow.holds Try.pinned (OpenSpec.ofChange fnHeadRoundTripWrong)

/-- 'zzlaws_cmd_chorale_kv_kv_b1.FnByteStringsExact': WHATEVER THE INPUT: true; the input reads as it did. -/
def fnByteStringsExactSpec : ChangeSpec := { name := "fnByteStringsExact", fn := fun _ => fun
  | [d1, d2, d3] => { results := [.lit (.bool true)], args := [d1, d2, d3] }
  | _ => none }
def fnByteStringsExactRow : OpenClaim := { program := "qxb6600244a", sum := "8560816c01deb885f6ef5834135cd3a7828000de72e12e0f5443ed7b8ef1b325", func := "example.com/chorale/chorale/zzlaws_cmd_chorale_kv_kv_b1.FnByteStringsExact", spec := "fnByteStringsExact", apart := false }
def FnByteStringsExactSaid : Prop := fnByteStringsExactRow.holds Try.pinned (OpenSpec.ofChange fnByteStringsExactSpec)

/-- ITS FALSE NEIGHBOUR: 'it returns false'. Refute it at one input. -/
def fnByteStringsExactWrong : ChangeSpec := { name := "fnByteStringsExact", fn := fun _ => fun
  | [d1, d2, d3] => { results := [.lit (.bool false)], args := [d1, d2, d3] }
  | _ => none }
def FnByteStringsExactWrongFalsely : Prop := fnByteStringsExactRow.holds Try.pinned (OpenSpec.ofChange fnByteStringsExactWrong)

/-- 'zzlaws_cmd_chorale_kv_kv_b1.FnByteStringsRoundTrip': WHATEVER THE INPUT: true; the input reads as it did. -/
def fnByteStringsRoundTripSpec : ChangeSpec := { name := "fnByteStringsRoundTrip", fn := fun _ => fun
  | [d1, d2, d3] => { results := [.lit (.bool true)], args := [d1, d2, d3] }
  | _ => none }
def fnByteStringsRoundTripRow : OpenClaim := { program := "qxb6600244a", sum := "8560816c01deb885f6ef5834135cd3a7828000de72e12e0f5443ed7b8ef1b325", func := "example.com/chorale/chorale/zzlaws_cmd_chorale_kv_kv_b1.FnByteStringsRoundTrip", spec := "fnByteStringsRoundTrip", apart := false }
def FnByteStringsRoundTripSaid : Prop := fnByteStringsRoundTripRow.holds Try.pinned (OpenSpec.ofChange fnByteStringsRoundTripSpec)

/-- ITS FALSE NEIGHBOUR: 'it returns false'. Refute it at one input. -/
def fnByteStringsRoundTripWrong : ChangeSpec := { name := "fnByteStringsRoundTrip", fn := fun _ => fun
  | [d1, d2, d3] => { results := [.lit (.bool false)], args := [d1, d2, d3] }
  | _ => none }
def FnByteStringsRoundTripWrongFalsely : Prop := fnByteStringsRoundTripRow.holds Try.pinned (OpenSpec.ofChange fnByteStringsRoundTripWrong)

/-- 'zzlaws_cmd_chorale_kv_kv_b1.FnByteStringsReusesBuffer': WHATEVER THE INPUT: true; the input reads as it did. -/
def fnByteStringsReusesBufferSpec : ChangeSpec := { name := "fnByteStringsReusesBuffer", fn := fun _ => fun
  | [d1, d2] => { results := [.lit (.bool true)], args := [d1, d2] }
  | _ => none }
def fnByteStringsReusesBufferRow : OpenClaim := { program := "qxb6600244a", sum := "8560816c01deb885f6ef5834135cd3a7828000de72e12e0f5443ed7b8ef1b325", func := "example.com/chorale/chorale/zzlaws_cmd_chorale_kv_kv_b1.FnByteStringsReusesBuffer", spec := "fnByteStringsReusesBuffer", apart := false }
def FnByteStringsReusesBufferSaid : Prop := fnByteStringsReusesBufferRow.holds Try.pinned (OpenSpec.ofChange fnByteStringsReusesBufferSpec)

/-- ITS FALSE NEIGHBOUR: 'it returns false'. Refute it at one input. -/
def fnByteStringsReusesBufferWrong : ChangeSpec := { name := "fnByteStringsReusesBuffer", fn := fun _ => fun
  | [d1, d2] => { results := [.lit (.bool false)], args := [d1, d2] }
  | _ => none }
def FnByteStringsReusesBufferWrongFalsely : Prop := fnByteStringsReusesBufferRow.holds Try.pinned (OpenSpec.ofChange fnByteStringsReusesBufferWrong)

end Rows
end Go.Proofs.Qxb6600244a
