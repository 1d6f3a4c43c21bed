/- The law FnByteStringsRoundTrip: the row's step. -/
import Derived.Test.Qxb6600244aRtWalkW
import Derived.Test.Qxb6600244aExactProof
namespace Go.Proofs.Qxb6600244a
open Go.ChangeShapes Go.WideShapes Go.ChangeAt Go.RowKit

theorem rt_walk (a1 : Option Addr) (n1 c1 : Nat) (L : List (List Nat)) (a2 : Option Addr) (n2 c2 : Nat) (zs : List Nat) (wide : Bool) (w : World) (h1 : RowA w a1 n1 c1 L) (h2 : ArgB w a2 n2 c2 zs) :
    Calls Try.prog 6 #[.slice a1 n1 c1, .slice a2 n2 c2, .bool wide] w fun e w' => e = .returned (.bool true) ∧ Below w.heap.size w w' := by
  cases wide with
  | false => exact rt_walkS a1 n1 c1 L a2 n2 c2 zs w h1 h2
  | true => exact rt_walkW a1 n1 c1 L a2 n2 c2 zs w h1 h2

namespace fnByteStringsRoundTrip
set_option maxRecDepth 100000 in
theorem lifted (os : Os) (started : os.Started) (H : Type) (enc : TypeId × Value → H) :
    ReturnsInHanded {} Try.checked os 6 .any (Rows.fnByteStringsRoundTripSpec.pre6 enc Try.prog Try.f6 Rows.fnByteStringsRoundTripRow.domain false) (Rows.fnByteStringsRoundTripSpec.post enc Try.prog Try.f6 false true false false) := by
  refine returnsInHanded_of_change (C := Try.checked) own started (by kernel_rfl) Try.func6
    (ChangeSpec.witness6 (enc := enc) (C := Try.checked) false ⟨#[], #[.slice none 0 0, .slice none 0 0, .bool false], []⟩ 8 (by kernel_rfl) (by kernel_rfl) (by kernel_rfl) (by kernel_rfl)) ?_
  intro W base args ds gs before hval0 hW hcnd _
  have hval : ∀ (j : Nat) t v, Try.f6.params[j]? = some t → args[j]? = some v → Value.okWide Try.prog W .any base t v := hval0
  have hW' := hW
  obtain ⟨p, q, hA0, hV, rfl, hfz, hnd⟩ := hW
  have hA : DataW.TrodAll enc Try.prog W 0 (fun _ => true) true Try.f6.params.toList args.toList ds p := hA0
  rw [Try.params6] at hA hval
  obtain ⟨v1, vs1, d1, ds1, p1, q1, hargs, rfl, rfl, h1, r1⟩ := trodAll_cons hA
  obtain ⟨v2, vs2, d2, ds2, p2, q2, rfl, rfl, rfl, h2, r2⟩ := trodAll_cons r1
  obtain ⟨v3, vs3, d3, ds3, p3, q3, rfl, rfl, rfl, h3, r3⟩ := trodAll_cons r2
  obtain ⟨rfl, rfl, rfl⟩ := trodAll_nil r3
  obtain rfl : args = #[v1, v2, v3] := by cases args; simp_all
  obtain ⟨rfl, rfl⟩ := trodVars_none hV
  obtain ⟨a1, len1, cap1, rfl⟩ := okWide_slice Try.underlying36 (hval 0 36 v1 rfl rfl)
  have lt1 : ∀ x ∈ p1, x.block < W.heap.size := by obtain ⟨m, hm⟩ := h1; exact DataW.trod_lt m _ _ _ hm
  obtain ⟨z1, w1⟩ := rowA_open h1
  obtain ⟨a2, len2, cap2, rfl⟩ := okWide_slice Try.underlying22 (hval 1 22 v2 rfl rfl)
  have lt2 : ∀ x ∈ p2, x.block < W.heap.size := by obtain ⟨m, hm⟩ := h2; exact DataW.trod_lt m _ _ _ hm
  obtain ⟨z2, w2⟩ := argB_open h2
  obtain ⟨f3, rfl, rfl, rfl⟩ := open_bool Try.underlying4 (hval 2 4 v3 rfl rfl) h3
  clear hA0 hval0
  refine (rt_walk a1 len1 cap1 z1 a2 len2 cap2 z2 f3 W w1 w2).mono fun e W' ⟨he, bel⟩ => ?_
  subst he
  exact ⟨_, rfl, _, _, _, [], _, [], hW', trodAll_mk1 (shut_bool Try.underlying4 _), (trodAll_cons_mk (Below.trod laidOut (by kernel_rfl) (of_decide_eq_true (by kernel_rfl)) h1 bel lt1) (trodAll_cons_mk (Below.trod laidOut (by kernel_rfl) (of_decide_eq_true (by kernel_rfl)) h2 bel lt2) (trodAll_cons_mk (shut_bool Try.underlying4 _) trodAll_mk0))), rfl, bel.frame _, fun h => by cases h⟩

theorem over : Rows.fnByteStringsRoundTripRow.holds Try.pinned (OpenSpec.ofChange Rows.fnByteStringsRoundTripSpec) :=
  OpenClaim.holds_of_wide 6 Try.f6 rfl rfl rfl rfl rfl rfl rfl ⟨rfl, rfl, rfl, rfl, rfl⟩ rfl rfl rfl rfl rfl (by kernel_rfl) Try.func6 (by kernel_rfl)
    (of_decide_eq_true (by kernel_rfl)) (by unfold Func.isWrapper; first | (rw [if_pos (by decide +kernel)]; kernel_rfl) | (rw [if_neg (by decide +kernel)]; exact ⟨rfl, rfl⟩))
    (fun os started H enc _ => lifted os started H enc)
end fnByteStringsRoundTrip

/-- The given statement. -/
theorem byteStringsRoundTrip_proved : Rows.FnByteStringsRoundTripSaid := fnByteStringsRoundTrip.over
end Go.Proofs.Qxb6600244a
