import Derived.Test.Qxb6600263aRows
import Derived.WalkKit
import Derived.WalkSpells
import Derived.WalkLawsBesides
import Derived.Below
import Derived.Outline
import Derived.OneCell
import Derived.Deep.QuietTactic
import Derived.BigQuiet
import Derived.BigRegion
import Derived.Laws.BitsAllLaws
namespace Go.Proofs.Qxb6600263a
open Go.RowKit

theorem hid {p : Prop} (h : p) : Hid p := h

/-- Numbers as values. -/
def ints (κ : IntKind) (zs : List Nat) : List Value := zs.map fun (z : Nat) => Value.int κ (z : Int)
theorem ints_length (κ : IntKind) (a : List Nat) : (ints κ a).length = a.length := by simp [ints]
theorem ints_get {κ : IntKind} {a : List Nat} {i : Nat} (h : i < a.length) : (ints κ a)[i]? = some (.int κ ((a.getD i 0 : Nat) : Int)) := by
  simp [ints, List.getD, List.getElem?_eq_getElem h]

/-- A slice's address and length lead to the numbers 'zs' of kind κ, below block B. (Of an empty slice the address is whatever.) -/
structure IV (κ : IntKind) (B : Nat) (w : World) (a : Option Addr) (n : Nat) (zs : List Nat) : Prop where
  len : zs.length = n
  cell : ∀ i, i < n → ∃ b off, a = some ⟨b, off, none⟩ ∧ b < B ∧ w.cell? ⟨b, off + i, none⟩ = some (.int κ ((zs.getD i 0 : Nat) : Int))

theorem IV.up {κ : IntKind} {B B' : Nat} {w : World} {a : Option Addr} {n : Nat} {zs : List Nat} (h : IV κ B w a n zs) (hB : B ≤ B') : IV κ B' w a n zs :=
  ⟨h.len, fun i hi => by obtain ⟨b, off, e, hb, hc⟩ := h.cell i hi; exact ⟨b, off, e, by omega, hc⟩⟩
theorem IV.mono {κ : IntKind} {B : Nat} {w w' : World} {a : Option Addr} {n : Nat} {zs : List Nat} (h : IV κ B w a n zs) (hb : Below B w w') : IV κ B w' a n zs :=
  ⟨h.len, fun i hi => by obtain ⟨b, off, e, hB, hc⟩ := h.cell i hi; exact ⟨b, off, e, hB, (hb.cell (p := ⟨b, off + i, none⟩) hB).trans hc⟩⟩
theorem IV.drewN {κ : IntKind} {B : Nat} {w : World} {a : Option Addr} {n : Nat} {zs : List Nat} (h : IV κ B w a n zs) {q : Nat} : IV κ B (w.drewN q) a n zs := ⟨h.len, h.cell⟩

theorem own_IV {κ : IntKind} {w : World} {base e n c : Nat} {a : Option Addr} {zs : List Nat} (h : w.ownsRow base e 1 (.slice a n c) n (ints κ zs)) : IV κ w.heap.size w a n zs := by
  have hl : zs.length = n := by simpa [ints_length] using h.1
  refine ⟨hl, fun i hi => ?_⟩
  rcases h.2 with ⟨_, h0⟩ | ⟨g, cap, cur, hv, _⟩
  · omega
  · simp only [Value.slice.injEq, true_and] at hv
    obtain ⟨rfl, rfl⟩ := hv
    have hc := h.cellAt i (by omega)
    rw [ints_get (by omega)] at hc
    have hc' : w.cell? ⟨g, 0 + i, none⟩ = some (.int κ ((zs.getD i 0 : Nat) : Int)) := by rw [Nat.zero_add]; exact hc
    exact ⟨g, 0, rfl, World.block_lt_of_cell? w _ hc', hc'⟩

/-- The row in the middle of a copy. -/
def cl (κ : IntKind) (zs : List Nat) (n k : Nat) : List Value := ints κ (zs.take k) ++ List.replicate (n - k) (Value.int κ 0)
theorem cl_zero (κ : IntKind) (zs : List Nat) (n : Nat) : cl κ zs n 0 = List.replicate n (Value.int κ 0) := by simp [cl, ints]
theorem cl_full {κ : IntKind} {zs : List Nat} {n : Nat} (h : zs.length = n) : cl κ zs n n = ints κ zs := by simp [cl, ← h]
theorem cl_get {κ : IntKind} {zs : List Nat} {n k : Nat} (h : zs.length = n) (hk : k < n) : (cl κ zs n k)[k]? = some (.int κ 0) := by
  unfold cl
  rw [List.getElem?_append_right (by rw [ints_length]; simp; omega), List.getElem?_replicate, if_pos (by rw [ints_length]; simp; omega)]
theorem cl_set {κ : IntKind} {zs : List Nat} {n k : Nat} (h : zs.length = n) (hk : k < n) : (cl κ zs n k).set k (.int κ ((zs.getD k 0 : Nat) : Int)) = cl κ zs n (k + 1) := by
  unfold cl
  rw [List.set_append_right _ _ (by rw [ints_length]; simp; omega)]
  have e : k - (ints κ (zs.take k)).length = 0 := by rw [ints_length]; simp; omega
  rw [e]
  obtain ⟨m, hm⟩ : ∃ m, n - k = m + 1 := ⟨n - k - 1, by omega⟩
  have hm' : n - (k + 1) = m := by omega
  rw [hm, hm', List.replicate_succ, List.set_cons_zero, List.take_succ_eq_append_getElem (show k < zs.length by omega)]
  have e2 : ints κ (zs.take k ++ [zs[k]'(by omega)]) = ints κ (zs.take k) ++ [.int κ ((zs.getD k 0 : Nat) : Int)] := by
    simp only [ints, List.map_append, List.map_cons, List.map_nil, List.getD, List.getElem?_eq_getElem (show k < zs.length by omega), Option.getD_some]
  rw [e2, List.append_assoc]
  rfl

theorem Try.info5 : (Try.prog.info? 5).map (fun i => (i.zero, i.size, i.bytes)) = some (some (.int .u8 0), 1, 1) := by kernel_rfl
theorem Try.info32 : (Try.prog.info? 32).map (fun i => (i.zero, i.size, i.bytes)) = some (some (.int .u32 0), 1, 4) := by kernel_rfl

set_option maxHeartbeats 1000000 in
theorem cloneU32_any (a : Option Addr) (n c : Nat) (zs : List Nat) (w : World) (B : Nat) (h : IV .u32 B w a n zs) (hB : B ≤ w.heap.size) (hnil : a = none → n = 0 ∧ c = 0) (hn : n ≤ 1048576) :
    Calls Try.prog 8 #[.slice a n c] w fun e w' => ∃ a', e = .returned (.slice a' n n) ∧ IV .u32 w'.heap.size w' a' n zs ∧ Below w.heap.size w w' := by
  have hq := fun w' => Lib.run_eql_slice_nil (P := Try.prog) w' 22 32 a n c 0 0 Try.underlying22
  have hl := h.len
  cases a with
  | none =>
    obtain ⟨rfl, rfl⟩ := hnil rfl
    obtain rfl : zs = [] := List.eq_nil_of_length_eq_zero hl
    clear h hnil hl
    go_enter Try.func8, Try.ntmps8
    go_wp2
    go_ret
    exact ⟨none, rfl, ⟨rfl, fun i hi => by omega⟩, Below.refl _ _⟩
  | some x =>
    clear hnil
    obtain ⟨i0, hi, hz0, hz1, hz2⟩ := info_parts Try.info32
    have HL : Hid (zs.length = n) := hl
    clear hl
    go_enter Try.func8, Try.ntmps8
    go_wp2_with (at_make; refine wpList_make_full _ rfl _ _ 22 rfl w.heap.size 32 i0 (.int .u32 0) 1 Try.underlying22 hi hz0 hz1 _ _ _ _ n rfl rfl rfl rfl ?b2 ?b3 ?b4 ?_)
    case b2 => rw [hz2]; omega
    case b3 => unfold maxLen; omega
    case b4 => exact Nat.le_refl _
    intro w1 hown hgrow
    have hb1 : Below w.heap.size w w1 := (Below.refl _ _).grown hgrow (Nat.le_refl _) (by simp)
    have hown1 : w1.ownsRow w.heap.size 32 1 (.slice (some ⟨w.heap.size, 0, none⟩) n n) n (cl .u32 zs n 0) := by
      rw [cl_zero, ← toList_madeCells_one]
      simpa using hown
    clear hown hgrow hi hz0 hz1 hz2 hq
    go_wp2
    go_loopw [4] (fun i wr => ∃ k : Nat, k ≤ n ∧ i = .int .i64 k ∧ wr.ownsRow w.heap.size 32 1 (.slice (some ⟨w.heap.size, 0, none⟩) n n) n (cl .u32 zs n k) ∧ Below w.heap.size w wr) (fun i _ => n - (intOf i).toNat)
    case atStart => exact ⟨0, Nat.zero_le _, rfl, hown1, hb1⟩
    case round =>
      clear hown1 hb1
      obtain ⟨k, hk, rfl, hown, hb⟩ := hrel
      by_cases hlt : k < n
      · obtain ⟨b, off, e, hbB, hc⟩ := h.cell k hlt
        simp only [Option.some.injEq] at e
        subst e
        obtain ⟨s, hs⟩ : ∃ s, s = zs.getD k 0 := ⟨_, rfl⟩
        have hc' : wr.cell? ⟨b, off + k, none⟩ = some (.int .u32 (s : Int)) := by rw [hs]; exact (hb.cell (p := ⟨b, off + k, none⟩) (by show b < _; omega)).trans hc
        have hd : wr.cell? ⟨w.heap.size, k, none⟩ = some (.int .u32 0) := (hown.cellAt k (by omega)).trans (cl_get HL.out hlt)
        have hf : wr.frozen? ⟨w.heap.size, k, none⟩ = false := hown.frozenAt k
        have hst := (hown.stored k (.int .u32 (s : Int))).1
        rw [hs, cl_set HL.out hlt, ← hs] at hst
        have hbs := hb.setCell (p := ⟨w.heap.size, k, none⟩) (Nat.le_refl _) (.int .u32 (s : Int))
        have R := And.intro hst hbs
        clear hst hbs hown hb hc hs h
        go_wp2
        go_roundw
        case rel => exact ⟨k + 1, by omega, by go_num, R.1, R.2⟩
        case measure => simp [intOf]; omega
      · obtain rfl : k = n := by omega
        rw [cl_full HL.out] at hown
        clear h
        go_wp2
        go_ret
        exact ⟨_, rfl, own_IV hown, hb⟩

set_option maxHeartbeats 1000000 in
theorem cloneU8_any (a : Option Addr) (n c : Nat) (zs : List Nat) (w : World) (B : Nat) (h : IV .u8 B w a n zs) (hB : B ≤ w.heap.size) (hnil : a = none → n = 0 ∧ c = 0) (hn : n ≤ 1048576) :
    Calls Try.prog 9 #[.slice a n c] w fun e w' => ∃ a', e = .returned (.slice a' n n) ∧ IV .u8 w'.heap.size w' a' n zs ∧ Below w.heap.size w w' := by
  have hq := fun w' => Lib.run_eql_slice_nil (P := Try.prog) w' 23 5 a n c 0 0 Try.underlying23
  have hl := h.len
  cases a with
  | none =>
    obtain ⟨rfl, rfl⟩ := hnil rfl
    obtain rfl : zs = [] := List.eq_nil_of_length_eq_zero hl
    clear h hnil hl
    go_enter Try.func9, Try.ntmps9
    go_wp2
    go_ret
    exact ⟨none, rfl, ⟨rfl, fun i hi => by omega⟩, Below.refl _ _⟩
  | some x =>
    clear hnil
    obtain ⟨i0, hi, hz0, hz1, hz2⟩ := info_parts Try.info5
    have HL : Hid (zs.length = n) := hl
    clear hl
    go_enter Try.func9, Try.ntmps9
    go_wp2_with (at_make; refine wpList_make_full _ rfl _ _ 23 rfl w.heap.size 5 i0 (.int .u8 0) 1 Try.underlying23 hi hz0 hz1 _ _ _ _ n rfl rfl rfl rfl ?b2 ?b3 ?b4 ?_)
    case b2 => rw [hz2]; omega
    case b3 => unfold maxLen; omega
    case b4 => exact Nat.le_refl _
    intro w1 hown hgrow
    have hb1 : Below w.heap.size w w1 := (Below.refl _ _).grown hgrow (Nat.le_refl _) (by simp)
    have hown1 : w1.ownsRow w.heap.size 5 1 (.slice (some ⟨w.heap.size, 0, none⟩) n n) n (cl .u8 zs n 0) := by
      rw [cl_zero, ← toList_madeCells_one]
      simpa using hown
    clear hown hgrow hi hz0 hz1 hz2 hq
    go_wp2
    go_loopw [4] (fun i wr => ∃ k : Nat, k ≤ n ∧ i = .int .i64 k ∧ wr.ownsRow w.heap.size 5 1 (.slice (some ⟨w.heap.size, 0, none⟩) n n) n (cl .u8 zs n k) ∧ Below w.heap.size w wr) (fun i _ => n - (intOf i).toNat)
    case atStart => exact ⟨0, Nat.zero_le _, rfl, hown1, hb1⟩
    case round =>
      clear hown1 hb1
      obtain ⟨k, hk, rfl, hown, hb⟩ := hrel
      by_cases hlt : k < n
      · obtain ⟨b, off, e, hbB, hc⟩ := h.cell k hlt
        simp only [Option.some.injEq] at e
        subst e
        obtain ⟨s, hs⟩ : ∃ s, s = zs.getD k 0 := ⟨_, rfl⟩
        have hc' : wr.cell? ⟨b, off + k, none⟩ = some (.int .u8 (s : Int)) := by rw [hs]; exact (hb.cell (p := ⟨b, off + k, none⟩) (by show b < _; omega)).trans hc
        have hd : wr.cell? ⟨w.heap.size, k, none⟩ = some (.int .u8 0) := (hown.cellAt k (by omega)).trans (cl_get HL.out hlt)
        have hf : wr.frozen? ⟨w.heap.size, k, none⟩ = false := hown.frozenAt k
        have hst := (hown.stored k (.int .u8 (s : Int))).1
        rw [hs, cl_set HL.out hlt, ← hs] at hst
        have hbs := hb.setCell (p := ⟨w.heap.size, k, none⟩) (Nat.le_refl _) (.int .u8 (s : Int))
        have R := And.intro hst hbs
        clear hst hbs hown hb hc hs h
        go_wp2
        go_roundw
        case rel => exact ⟨k + 1, by omega, by go_num, R.1, R.2⟩
        case measure => simp [intOf]; omega
      · obtain rfl : k = n := by omega
        rw [cl_full HL.out] at hown
        clear h
        go_wp2
        go_ret
        exact ⟨_, rfl, own_IV hown, hb⟩

/-- The least of three. -/
def min3 (a b c : Nat) : Nat := min (min a b) c
theorem min3_any (a b c : Nat) (w : World) : Calls Try.prog 10 #[.int .i64 (a : Int), .int .i64 (b : Int), .int .i64 (c : Int)] w fun e w' => e = .returned (.int .i64 ((min3 a b c : Nat) : Int)) ∧ w' = w := by
  obtain ⟨m, hm⟩ : ∃ m, m = min3 a b c := ⟨_, rfl⟩
  rw [← hm]
  unfold min3 at hm
  by_cases h1 : (b : Int) < (a : Int)
  · by_cases h2 : (c : Int) < (b : Int)
    · obtain rfl : m = c := by omega
      clear hm
      go_enter Try.func10, Try.ntmps10
      go_wp2
      go_ret
      exact ⟨rfl, rfl⟩
    · obtain rfl : m = b := by omega
      clear hm
      go_enter Try.func10, Try.ntmps10
      go_wp2
      go_ret
      exact ⟨rfl, rfl⟩
  · by_cases h2 : (c : Int) < (a : Int)
    · obtain rfl : m = c := by omega
      clear hm
      go_enter Try.func10, Try.ntmps10
      go_wp2
      go_ret
      exact ⟨rfl, rfl⟩
    · obtain rfl : m = a := by omega
      clear hm
      go_enter Try.func10, Try.ntmps10
      go_wp2
      go_ret
      exact ⟨rfl, rfl⟩

/-! ### The Hop_Lim of an entry -/
/-- The Hop_Lim that an entry carries, and whether it carries one. -/
def hl (f h wd : Nat) : Nat := if f / 8388608 % 2 = 1 then h else if f / 32768 % 2 = 1 then wd else 0
def hasHl (f : Nat) : Bool := if f / 8388608 % 2 = 1 then true else if f / 32768 % 2 = 1 then true else false

theorem and23 (f : Nat) (hf : f < 4294967296) : bits BinOp.and IntKind.u32 (f : Int) 8388608 = ((f / 8388608 % 2 * 8388608 : Nat) : Int) := by
  have h := u32_and_nat f 8388608 hf (by omega)
  rw [nat_bit23] at h
  exact h
theorem and15 (f : Nat) (hf : f < 4294967296) : bits BinOp.and IntKind.u32 (f : Int) 32768 = ((f / 32768 % 2 * 32768 : Nat) : Int) := by
  have h := u32_and_nat f 32768 hf (by omega)
  rw [nat_bit15] at h
  exact h

set_option maxRecDepth 100000 in
theorem HL_any (f h wd : Nat) (w : World) (hf : f < 4294967296) (hh : h < 256) (hw : wd < 256) :
    Calls Try.prog 14 #[.int .u32 (f : Int), .int .u8 (h : Int), .int .u8 (wd : Int)] w fun e w' => e = .returned (.tuple #[.int .i64 ((hl f h wd : Nat) : Int), .bool (hasHl f)]) ∧ w' = w := by
  have e1 := and23 f hf
  have e2 := and15 f hf
  by_cases h1 : f / 8388608 % 2 = 1
  · have g1 : hl f h wd = h := by unfold hl; rw [if_pos h1]
    have g2 : hasHl f = true := by unfold hasHl; rw [if_pos h1]
    rw [h1] at e1
    rw [g1, g2]
    have e1' : bits BinOp.and IntKind.u32 (f : Int) 8388608 = 8388608 := e1
    clear e1 e2 h1 g1 g2
    go_enter Try.func14, Try.ntmps14
    go_wp2
    go_ret2
    exact ⟨rfl, rfl⟩
  · have h0 : f / 8388608 % 2 = 0 := by omega
    rw [h0] at e1
    have e1' : bits BinOp.and IntKind.u32 (f : Int) 8388608 = 0 := e1
    by_cases h2 : f / 32768 % 2 = 1
    · have g1 : hl f h wd = wd := by unfold hl; rw [if_neg h1, if_pos h2]
      have g2 : hasHl f = true := by unfold hasHl; rw [if_neg h1, if_pos h2]
      rw [h2] at e2
      rw [g1, g2]
      have e2' : bits BinOp.and IntKind.u32 (f : Int) 32768 = 32768 := e2
      clear e1 e2 h1 g1 g2 h0 h2
      go_enter Try.func14, Try.ntmps14
      go_wp2
      go_ret2
      exact ⟨rfl, rfl⟩
    · have g1 : hl f h wd = 0 := by unfold hl; rw [if_neg h1, if_neg h2]
      have g2 : hasHl f = false := by unfold hasHl; rw [if_neg h1, if_neg h2]
      have h3 : f / 32768 % 2 = 0 := by omega
      rw [h3] at e2
      rw [g1, g2]
      have e2' : bits BinOp.and IntKind.u32 (f : Int) 32768 = 0 := e2
      clear e1 e2 h1 g1 g2 h0 h2 h3
      go_enter Try.func14, Try.ntmps14
      go_wp2
      go_ret2
      exact ⟨rfl, rfl⟩

end Go.Proofs.Qxb6600263a
