/- The law FnByteStringsExact: the row's step, after the guide's shell for slices of integers, turned to a slice of slices. -/
import Derived.Test.Qxb6600244aExact
import Derived.ProofKit
import Derived.OpenShut
import Derived.ShutString
import Derived.ChangeOld
import Derived.Deep.Slices
namespace Go.Proofs.Qxb6600244a
open Go.ChangeShapes Go.WideShapes Go.ChangeAt Go.RowKit

theorem own : ownKnob Try.prog.godebug = none := by kernel_rfl
theorem laidOut : laidOutB Try.prog = true := by kernel_rfl

theorem argB_nil (W : World) : ArgB W none 0 0 [] := ⟨BV.nil _ _ _, fun _ => ⟨rfl, rfl⟩, Nat.le_refl _, by unfold maxLen; omega⟩

theorem argB_row {w : World} {x : Addr} {len cap : Nat} {zs : List Int} (hl : len ≤ cap) (hm : cap ≤ maxLen) (hz : zs.length = cap) (hcell : ∀ i, i < zs.length → w.cell? (x.add i) = some (.int .u8 (zs.getD i 0))) (hwz : ∀ n ∈ zs, (Lit.int .u8 n).wf = true) :
    ArgB w (some x) len cap ((zs.take len).map Int.toNat) := by
  have hb : ∀ z ∈ zs, 0 ≤ z ∧ z ≤ 255 := fun z h => bounds_u8 (hwz z h)
  refine ⟨⟨by simp; omega, ?_, ?_⟩, by simp, hl, hm⟩
  · intro z h
    obtain ⟨y, hy, rfl⟩ := List.mem_map.1 h
    have := hb y (List.mem_of_mem_take hy)
    omega
  · intro i hi
    have h := hcell i (by omega)
    obtain ⟨b, off, spot⟩ := x
    have hspot : spot = none := by simpa [Addr.add] using World.cell?_spot (hcell 0 (by omega))
    subst hspot
    rw [Addr.add_lit] at h
    refine ⟨b, off, rfl, World.block_lt_of_cell? w _ h, ?_⟩
    rw [h]
    have hiz : i < zs.length := by omega
    have hb' := hb _ (List.getElem_mem hiz)
    simp [List.getD, List.getElem?_eq_getElem hiz, hi]
    omega

theorem argB_trod {H : Type} {enc : TypeId × Value → H} {W : World} {fuel : Nat} {cs : List Value} {y : DataW H × List MemPlace}
    (hf : DataW.trod enc Try.prog W 0 (fun _ => true) true fuel 22 cs = some y) : ∃ a l c zs, cs = [.slice a l c] ∧ ArgB W a l c zs := by
  rcases open_ints Try.underlying22 Try.underlying5 (by kernel_rfl) hf with ⟨hcs, _⟩ | ⟨x, l, c, zs, hcs, _, hl, hm, hz, _, hcell, hwz⟩
  · exact ⟨none, 0, 0, [], hcs, argB_nil W⟩
  · exact ⟨_, _, _, _, hcs, argB_row hl hm (by simpa using hz) hcell hwz⟩

theorem argB_open {H : Type} {enc : TypeId × Value → H} {W : World} {a : Option Addr} {l c : Nat} {d : DataW H} {p : List MemPlace}
    (h : DataW.Trod enc Try.prog W 0 (fun _ => true) true 22 (.slice a l c) d p) : ∃ zs, ArgB W a l c zs := by
  obtain ⟨fuel, hf⟩ := h
  obtain ⟨a', l', c', zs, e, hA⟩ := argB_trod hf
  simp [Value.cells] at e
  obtain ⟨rfl, rfl, rfl⟩ := e
  exact ⟨zs, hA⟩

theorem Try.cells22 : Try.prog.cellsOf 22 = 1 := by kernel_rfl

theorem rowA_open {H : Type} {enc : TypeId × Value → H} {W : World} {a : Option Addr} {l c : Nat} {d : DataW H} {p : List MemPlace}
    (h : DataW.Trod enc Try.prog W 0 (fun _ => true) true 36 (.slice a l c) d p) : ∃ L, RowA W a l c L := by
  obtain ⟨fuel, hf⟩ := h
  rcases Go.Deep.open_slice Try.underlying36 hf with ⟨hcs, _⟩ | ⟨x, l', c', m, n, D, Pl, hcs, _, hl, hm, hmm, _, hel⟩
  · simp [Value.cells] at hcs
    obtain ⟨rfl, rfl, rfl⟩ := hcs
    exact ⟨[], ⟨rfl, fun _ => ⟨rfl, rfl⟩, Nat.le_refl _, by unfold maxLen; omega, fun i hi => by omega⟩⟩
  · simp [Value.cells] at hcs
    obtain ⟨rfl, rfl, rfl⟩ := hcs
    simp only [if_true] at hmm
    have each : ∀ i, i < l → ∃ zs, ∃ ai ni ci, W.cell? (x.add i) = some (.slice ai ni ci) ∧ ArgB W ai ni ci zs := by
      intro i hi
      obtain ⟨cs', h1, h2⟩ := hel i (by omega)
      rw [Try.cells22, Nat.mul_one] at h1
      obtain ⟨ai, ni, ci, zs, rfl, hA⟩ := argB_trod h2
      exact ⟨zs, ai, ni, ci, cell_of_cells?_one h1, hA⟩
    obtain ⟨f, hff⟩ := Go.Deep.choose_lt each
    refine ⟨(List.range l).map f, by simp, by simp, hl, hm, fun i hi => ?_⟩
    obtain ⟨ai, ni, ci, h1, h2⟩ := hff i hi
    have h0 := (hff 0 (by omega))
    obtain ⟨a0, n0, c0, h01, _⟩ := h0
    obtain ⟨b, off, spot⟩ := x
    have hspot : spot = none := by simpa [Addr.add] using World.cell?_spot h01
    subst hspot
    rw [Addr.add_lit] at h1
    refine ⟨b, off, ai, ni, ci, rfl, World.block_lt_of_cell? W _ h1, h1, ?_⟩
    have e : ((List.range l).map f).getD i [] = f i := by simp [List.getD, hi]
    rw [e]
    exact h2

namespace fnByteStringsExact
set_option maxRecDepth 100000 in
theorem lifted (os : Os) (started : os.Started) (H : Type) (enc : TypeId × Value → H) :
    ReturnsInHanded {} Try.checked os 5 .any (Rows.fnByteStringsExactSpec.pre6 enc Try.prog Try.f5 Rows.fnByteStringsExactRow.domain false) (Rows.fnByteStringsExactSpec.post enc Try.prog Try.f5 false true false false) := by
  refine returnsInHanded_of_change (C := Try.checked) own started (by kernel_rfl) Try.func5
    (ChangeSpec.witness6 (enc := enc) (C := Try.checked) false ⟨#[], #[.slice none 0 0, .bool false, .slice none 0 0], []⟩ 8 (by kernel_rfl) (by kernel_rfl) (by kernel_rfl) (by kernel_rfl)) ?_
  intro W base args ds gs before hval0 hW hcnd _
  have hval : ∀ (j : Nat) t v, Try.f5.params[j]? = some t → args[j]? = some v → Value.okWide Try.prog W .any base t v := hval0
  have hW' := hW
  obtain ⟨p, q, hA0, hV, rfl, hfz, hnd⟩ := hW
  have hA : DataW.TrodAll enc Try.prog W 0 (fun _ => true) true Try.f5.params.toList args.toList ds p := hA0
  rw [Try.params5] at hA hval
  obtain ⟨v1, vs1, d1, ds1, p1, q1, hargs, rfl, rfl, h1, r1⟩ := trodAll_cons hA
  obtain ⟨v2, vs2, d2, ds2, p2, q2, rfl, rfl, rfl, h2, r2⟩ := trodAll_cons r1
  obtain ⟨v3, vs3, d3, ds3, p3, q3, rfl, rfl, rfl, h3, r3⟩ := trodAll_cons r2
  obtain ⟨rfl, rfl, rfl⟩ := trodAll_nil r3
  obtain rfl : args = #[v1, v2, v3] := by cases args; simp_all
  obtain ⟨rfl, rfl⟩ := trodVars_none hV
  obtain ⟨a1, len1, cap1, rfl⟩ := okWide_slice Try.underlying22 (hval 0 22 v1 rfl rfl)
  have lt1 : ∀ x ∈ p1, x.block < W.heap.size := by obtain ⟨m, hm⟩ := h1; exact DataW.trod_lt m _ _ _ hm
  obtain ⟨z1, w1⟩ := argB_open h1
  obtain ⟨f2, rfl, rfl, rfl⟩ := open_bool Try.underlying4 (hval 1 4 v2 rfl rfl) h2
  obtain ⟨a3, len3, cap3, rfl⟩ := okWide_slice Try.underlying36 (hval 2 36 v3 rfl rfl)
  have lt3 : ∀ x ∈ p3, x.block < W.heap.size := by obtain ⟨m, hm⟩ := h3; exact DataW.trod_lt m _ _ _ hm
  obtain ⟨z3, w3⟩ := rowA_open h3
  clear hA0 hval0
  refine (exact_walk a1 len1 cap1 z1 f2 a3 len3 cap3 z3 W w1 w3).mono fun e W' ⟨he, bel⟩ => ?_
  subst he
  exact ⟨_, rfl, _, _, _, [], _, [], hW', trodAll_mk1 (shut_bool Try.underlying4 _), (trodAll_cons_mk (Below.trod laidOut (by kernel_rfl) (of_decide_eq_true (by kernel_rfl)) h1 bel lt1) (trodAll_cons_mk (shut_bool Try.underlying4 _) (trodAll_cons_mk (Below.trod laidOut (by kernel_rfl) (of_decide_eq_true (by kernel_rfl)) h3 bel lt3) trodAll_mk0))), rfl, bel.frame _, fun h => by cases h⟩

theorem over : Rows.fnByteStringsExactRow.holds Try.pinned (OpenSpec.ofChange Rows.fnByteStringsExactSpec) :=
  OpenClaim.holds_of_wide 5 Try.f5 rfl rfl rfl rfl rfl rfl rfl ⟨rfl, rfl, rfl, rfl, rfl⟩ rfl rfl rfl rfl rfl (by kernel_rfl) Try.func5 (by kernel_rfl)
    (of_decide_eq_true (by kernel_rfl)) (by unfold Func.isWrapper; first | (rw [if_pos (by decide +kernel)]; kernel_rfl) | (rw [if_neg (by decide +kernel)]; exact ⟨rfl, rfl⟩))
    (fun os started H enc _ => lifted os started H enc)
end fnByteStringsExact

/-- The given statement. -/
theorem byteStringsExact_proved : Rows.FnByteStringsExactSaid := fnByteStringsExact.over
end Go.Proofs.Qxb6600244a
