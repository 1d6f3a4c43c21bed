import Derived.Test.Qxb6600168aBase
namespace Go.Proofs.Qxb6600168a
open Go.RowKit

theorem Try.info9 : (Try.prog.info? 9).map (fun i => (i.zero, i.size, i.bytes)) = some (some (.string ByteArray.empty), 1, 16) := by kernel_rfl

/-- The row in the middle of a copy: the first k strings, and empty ones behind. -/
def clS (ss : List ByteArray) (n k : Nat) : List Value := (ss.take k).map Value.string ++ List.replicate (n - k) (Value.string ByteArray.empty)

theorem clS_zero (ss : List ByteArray) (n : Nat) : clS ss n 0 = List.replicate n (Value.string ByteArray.empty) := by simp [clS]
theorem clS_full {ss : List ByteArray} {n : Nat} (h : ss.length = n) : clS ss n n = ss.map Value.string := by
  simp [clS, ← h]
theorem clS_get {ss : List ByteArray} {n k : Nat} (h : ss.length = n) (hk : k < n) : (clS ss n k)[k]? = some (.string ByteArray.empty) := by
  unfold clS
  rw [List.getElem?_append_right (by simp; omega), List.getElem?_replicate, if_pos (by simp; omega)]
theorem clS_set {ss : List ByteArray} {n k : Nat} (h : ss.length = n) (hk : k < n) : (clS ss n k).set k (.string (ss.getD k ByteArray.empty)) = clS ss n (k + 1) := by
  unfold clS
  rw [List.set_append_right _ _ (by simp; omega)]
  have e : k - ((ss.take k).map Value.string).length = 0 := by simp; omega
  rw [e]
  obtain ⟨m, hm⟩ : ∃ m, n - k = m + 1 := ⟨n - k - 1, by omega⟩
  have hm' : n - (k + 1) = m := by omega
  rw [hm, hm', List.replicate_succ, List.set_cons_zero, List.take_succ_eq_append_getElem (by omega), List.map_append]
  simp [List.getD, List.getElem?_eq_getElem (show k < ss.length by omega)]

theorem own_SV {w : World} {base n c : Nat} {a : Option Addr} {ss : List ByteArray} (h : w.ownsRow base 9 1 (.slice a n c) n (ss.map Value.string)) : SV w.heap.size w a n ss := by
  have hl : ss.length = n := by simpa using h.1
  refine ⟨hl, fun i hi => ?_⟩
  rcases h.2 with ⟨_, h0⟩ | ⟨g, cap, cur, hv, _⟩
  · omega
  · simp only [Value.slice.injEq, true_and] at hv
    obtain ⟨rfl, rfl⟩ := hv
    have hc := h.cellAt i (by omega)
    rw [List.getElem?_map, List.getElem?_eq_getElem (show i < ss.length by omega)] at hc
    have hc' : w.cell? ⟨g, 0 + i, none⟩ = some (.string (ss.getD i ByteArray.empty)) := by
      rw [Nat.zero_add, hc]
      simp [List.getD, List.getElem?_eq_getElem (show i < ss.length by omega)]
    exact ⟨g, 0, rfl, World.block_lt_of_cell? w _ hc', hc'⟩

theorem own_len {w : World} {base n c : Nat} {a : Option Addr} {xs : List Value} (h : w.ownsRow base 9 1 (.slice a n c) n xs) : n ≤ c ∧ (a = none → n = 0 ∧ c = 0) := by
  rcases h.2 with ⟨hv, h0⟩ | ⟨g, cap, cur, hv, _, _, hc, _⟩
  · simp at hv; omega
  · simp at hv
    obtain ⟨rfl, rfl⟩ := hv
    exact ⟨hc, by simp⟩

/-! ### cloneStrs: a new row of the same strings; nothing that was there turns -/
set_option maxHeartbeats 1000000 in
theorem cloneStrs_any (a : Option Addr) (n c : Nat) (ss : List ByteArray) (w : World) (B : Nat) (h : SV B w a n ss) (hB : B ≤ w.heap.size) (hnil : a = none → n = 0 ∧ c = 0) (hn : n ≤ 1048576) :
    Calls Try.prog 20 #[.slice a n c] w fun e w' => ∃ a', e = .returned (.slice a' n n) ∧ w'.ownsRow w.heap.size 9 1 (.slice a' n n) n (ss.map Value.string) ∧ Below w.heap.size w w' := by
  have hq := fun w' => Lib.run_eql_slice_nil (P := Try.prog) w' 28 9 a n c 0 0 Try.underlying28
  have hl := h.1
  cases a with
  | none =>
    obtain ⟨rfl, rfl⟩ := hnil rfl
    obtain rfl : ss = [] := List.eq_nil_of_length_eq_zero hl
    clear h hnil hl
    go_enter Try.func20, Try.ntmps20
    go_wp2
    go_ret
    exact ⟨none, rfl, World.ownsRow_nil _ _ _ _, Below.refl _ _⟩
  | some x =>
    clear hnil
    obtain ⟨i0, hi, hz0, hz1, hz2⟩ := info_parts Try.info9
    have HL : Hid (ss.length = n) := hl
    clear hl
    go_enter Try.func20, Try.ntmps20
    go_wp2_with (at_make; refine wpList_make_full _ rfl _ _ 28 rfl w.heap.size 9 i0 (.string ByteArray.empty) 1 Try.underlying28 hi hz0 hz1 _ _ _ _ n rfl rfl rfl rfl ?b2 ?b3 ?b4 ?_)
    case b2 => rw [hz2]; omega
    case b3 => unfold maxLen; omega
    case b4 => exact Nat.le_refl _
    intro w1 hown hgrow
    have hb1 : Below w.heap.size w w1 := (Below.refl _ _).grown hgrow (Nat.le_refl _) (by simp)
    have hown1 : w1.ownsRow w.heap.size 9 1 (.slice (some ⟨w.heap.size, 0, none⟩) n n) n (clS ss n 0) := by
      rw [clS_zero, ← toList_madeCells_one]
      simpa using hown
    clear hown hgrow hi hz0 hz1 hz2 hq
    go_wp2
    go_loopw [4] (fun i wr => ∃ k : Nat, k ≤ n ∧ i = .int .i64 k ∧ wr.ownsRow w.heap.size 9 1 (.slice (some ⟨w.heap.size, 0, none⟩) n n) n (clS ss n k) ∧ Below w.heap.size w wr) (fun i _ => n - (intOf i).toNat)
    case atStart => exact ⟨0, Nat.zero_le _, rfl, hown1, hb1⟩
    case round =>
      clear hown1 hb1
      obtain ⟨k, hk, rfl, hown, hb⟩ := hrel
      by_cases hlt : k < n
      · obtain ⟨b, off, e, hbB, hc⟩ := h.2 k hlt
        simp only [Option.some.injEq] at e
        subst e
        have hc' : wr.cell? ⟨b, off + k, none⟩ = some (.string (ss.getD k ByteArray.empty)) := (hb.cell (p := ⟨b, off + k, none⟩) (by show b < _; omega)).trans hc
        obtain ⟨s, hs⟩ : ∃ s, s = ss.getD k ByteArray.empty := ⟨_, rfl⟩
        rw [← hs] at hc'
        have hd : wr.cell? ⟨w.heap.size, k, none⟩ = some (.string ByteArray.empty) := (hown.cellAt k (by omega)).trans (clS_get HL.out hlt)
        have hf : wr.frozen? ⟨w.heap.size, k, none⟩ = false := hown.frozenAt k
        have hst := (hown.stored k (.string s)).1
        rw [hs, clS_set HL.out hlt, ← hs] at hst
        have hbs := hb.setCell (p := ⟨w.heap.size, k, none⟩) (Nat.le_refl _) (.string s)
        have R := And.intro hst hbs
        clear hst hbs hown hb hc hs h
        go_wp2
        go_roundw
        case rel => exact ⟨k + 1, by omega, by go_num, R.1, R.2⟩
        case measure => simp [intOf]; omega
      · obtain rfl : k = n := by omega
        rw [clS_full HL.out] at hown
        clear h
        go_wp2
        go_ret
        exact ⟨_, rfl, hown, hb⟩

end Go.Proofs.Qxb6600168a
