/-
  No cell of these rows narrows 'for every input' (looked for: loops, veiled, ifaces, maps, wideKeys, modest, calm, conditions, laid).
  DERIVED. THE GIVEN ROWS OF THIS SEAT. 4 by the template 'for every input the law returns true; each argument reads behind the call as it read before'; 0 by the template 'total and deterministic' (their statements: Qxb6600263aTotals.lean).
  GIVEN WITH THE SEED: the statements are not yours to turn. If you find one false, say at which input.
  Laid BY PROGRAM, IN A SANDBOX (cutbox-rows.mjs): the forced cells as the released guide's own fill.sh prints them over the translation bca90f95737ede8c… (all of the seat's roots in one cut). By AI agents, Wed Nov 11 2026. No macro, syntax, notation, axiom, sorry.
-/
import Derived.Test.Qxb6600263aChecked
import GoSem.Claim
import GoSem.ClaimJoined
import GoSem.ClaimMapViews
import Derived.JoinedTies
import Derived.KernelRfl
namespace Go.Proofs.Qxb6600263a
/- THE CELL 'sum', in the pinned program and in every row, IS THE sha256 OF THE DUMP (.gsa) THAT Qxb6600263aProg.lean LOADS. Nothing in Lean hashes anything: it is a label: what it is worth is what the hold of that sum in a sandbox is worth. -/
noncomputable def Try.pinned : Pinned := { name := "qxb6600263a", sum := "bca90f95737ede8c5ac38a22d56792931f24ef8051364ca263ad64d8fe0ae61a", checked := Try.checked }
namespace Rows
def none {H : Type} : Left H := { results := [], args := [] }

/-- 'zzlaws_ioam_b1.FnCountUnawareHopsExact': WHATEVER THE INPUT: true; the input reads as it did. -/
def fnCountUnawareHopsExactSpec : ChangeSpec := { name := "fnCountUnawareHopsExact", fn := fun _ => fun
  | [d1, d2, d3] => { results := [.lit (.bool true)], args := [d1, d2, d3] }
  | _ => none }
def fnCountUnawareHopsExactRow : OpenClaim := { program := "qxb6600263a", sum := "bca90f95737ede8c5ac38a22d56792931f24ef8051364ca263ad64d8fe0ae61a", func := "example.com/hopmark/hopmark/zzlaws_ioam_b1.FnCountUnawareHopsExact", spec := "fnCountUnawareHopsExact", apart := false }
def FnCountUnawareHopsExactSaid : Prop := fnCountUnawareHopsExactRow.holds Try.pinned (OpenSpec.ofChange fnCountUnawareHopsExactSpec)

/-- ITS FALSE NEIGHBOUR: 'it returns false'. Refute it at one input. -/
def fnCountUnawareHopsExactWrong : ChangeSpec := { name := "fnCountUnawareHopsExact", fn := fun _ => fun
  | [d1, d2, d3] => { results := [.lit (.bool false)], args := [d1, d2, d3] }
  | _ => none }
def FnCountUnawareHopsExactWrongFalsely : Prop := fnCountUnawareHopsExactRow.holds Try.pinned (OpenSpec.ofChange fnCountUnawareHopsExactWrong)

/-- 'zzlaws_ioam_b1.FnCountUnawareHopsShiftInvariant': WHATEVER THE INPUT: true; the input reads as it did. -/
def fnCountUnawareHopsShiftInvariantSpec : ChangeSpec := { name := "fnCountUnawareHopsShiftInvariant", fn := fun _ => fun
  | [d1, d2, d3, d4] => { results := [.lit (.bool true)], args := [d1, d2, d3, d4] }
  | _ => none }
def fnCountUnawareHopsShiftInvariantRow : OpenClaim := { program := "qxb6600263a", sum := "bca90f95737ede8c5ac38a22d56792931f24ef8051364ca263ad64d8fe0ae61a", func := "example.com/hopmark/hopmark/zzlaws_ioam_b1.FnCountUnawareHopsShiftInvariant", spec := "fnCountUnawareHopsShiftInvariant", apart := false }
def FnCountUnawareHopsShiftInvariantSaid : Prop := fnCountUnawareHopsShiftInvariantRow.holds Try.pinned (OpenSpec.ofChange fnCountUnawareHopsShiftInvariantSpec)

/-- ITS FALSE NEIGHBOUR: 'it returns false'. Refute it at one input. -/
def fnCountUnawareHopsShiftInvariantWrong : ChangeSpec := { name := "fnCountUnawareHopsShiftInvariant", fn := fun _ => fun
  | [d1, d2, d3, d4] => { results := [.lit (.bool false)], args := [d1, d2, d3, d4] }
  | _ => none }
def FnCountUnawareHopsShiftInvariantWrongFalsely : Prop := fnCountUnawareHopsShiftInvariantRow.holds Try.pinned (OpenSpec.ofChange fnCountUnawareHopsShiftInvariantWrong)

/-- 'zzlaws_ioam_b1.FnCountUnawareHopsIdempotent': WHATEVER THE INPUT: true; the input reads as it did. -/
def fnCountUnawareHopsIdempotentSpec : ChangeSpec := { name := "fnCountUnawareHopsIdempotent", fn := fun _ => fun
  | [d1, d2, d3] => { results := [.lit (.bool true)], args := [d1, d2, d3] }
  | _ => none }
def fnCountUnawareHopsIdempotentRow : OpenClaim := { program := "qxb6600263a", sum := "bca90f95737ede8c5ac38a22d56792931f24ef8051364ca263ad64d8fe0ae61a", func := "example.com/hopmark/hopmark/zzlaws_ioam_b1.FnCountUnawareHopsIdempotent", spec := "fnCountUnawareHopsIdempotent", apart := false }
def FnCountUnawareHopsIdempotentSaid : Prop := fnCountUnawareHopsIdempotentRow.holds Try.pinned (OpenSpec.ofChange fnCountUnawareHopsIdempotentSpec)

/-- ITS FALSE NEIGHBOUR: 'it returns false'. Refute it at one input. -/
def fnCountUnawareHopsIdempotentWrong : ChangeSpec := { name := "fnCountUnawareHopsIdempotent", fn := fun _ => fun
  | [d1, d2, d3] => { results := [.lit (.bool false)], args := [d1, d2, d3] }
  | _ => none }
def FnCountUnawareHopsIdempotentWrongFalsely : Prop := fnCountUnawareHopsIdempotentRow.holds Try.pinned (OpenSpec.ofChange fnCountUnawareHopsIdempotentWrong)

/-- 'zzlaws_ioam_b1.FnFlagsFieldDecodes': WHATEVER THE INPUT: true; the input reads as it did. -/
def fnFlagsFieldDecodesSpec : ChangeSpec := { name := "fnFlagsFieldDecodes", fn := fun _ => fun
  | [d1, d2, d3] => { results := [.lit (.bool true)], args := [d1, d2, d3] }
  | _ => none }
def fnFlagsFieldDecodesRow : OpenClaim := { program := "qxb6600263a", sum := "bca90f95737ede8c5ac38a22d56792931f24ef8051364ca263ad64d8fe0ae61a", func := "example.com/hopmark/hopmark/zzlaws_ioam_b1.FnFlagsFieldDecodes", spec := "fnFlagsFieldDecodes", apart := false }
def FnFlagsFieldDecodesSaid : Prop := fnFlagsFieldDecodesRow.holds Try.pinned (OpenSpec.ofChange fnFlagsFieldDecodesSpec)

/-- ITS FALSE NEIGHBOUR: 'it returns false'. Refute it at one input. -/
def fnFlagsFieldDecodesWrong : ChangeSpec := { name := "fnFlagsFieldDecodes", fn := fun _ => fun
  | [d1, d2, d3] => { results := [.lit (.bool false)], args := [d1, d2, d3] }
  | _ => none }
def FnFlagsFieldDecodesWrongFalsely : Prop := fnFlagsFieldDecodesRow.holds Try.pinned (OpenSpec.ofChange fnFlagsFieldDecodesWrong)

end Rows
end Go.Proofs.Qxb6600263a
