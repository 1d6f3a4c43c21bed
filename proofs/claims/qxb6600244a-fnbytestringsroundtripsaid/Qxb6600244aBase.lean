import Derived.Test.Qxb6600244aRows
import Derived.WalkKit
import Derived.WalkSpells
import Derived.WalkLawsBesides
import Derived.Below
import Derived.Outline
import Derived.OneCell
import Derived.Laws.CopyOwn
import Derived.Laws.AppendOwnNone
import Derived.Deep.QuietTactic
import Derived.BigQuiet
namespace Go.Proofs.Qxb6600244a
open Go.RowKit

/-- A byte as a value. -/
def u8 (z : Nat) : Value := .int .u8 (z : Int)
/-- Bytes as values. -/
def u8s (zs : List Nat) : List Value := zs.map u8

theorem u8s_append (a b : List Nat) : u8s (a ++ b) = u8s a ++ u8s b := by simp [u8s]
theorem u8s_length (a : List Nat) : (u8s a).length = a.length := by simp [u8s]
theorem u8s_get {a : List Nat} {i : Nat} (h : i < a.length) : (u8s a)[i]? = some (.int .u8 ((a.getD i 0 : Nat) : Int)) := by
  simp [u8s, u8, List.getD, List.getElem?_eq_getElem h]
theorem u8s_one (a : List Nat) : ∀ u ∈ u8s a, u.oneCell' = true := by
  intro u hu
  obtain ⟨_, _, rfl⟩ := List.mem_map.1 hu
  rfl

/-- A slice's address and length lead to the bytes 'zs', below block B. (Of an empty slice the address is whatever.) -/
structure BV (B : Nat) (w : World) (a : Option Addr) (n : Nat) (zs : List Nat) : Prop where
  len : zs.length = n
  lt : ∀ z ∈ zs, z < 256
  cell : ∀ i, i < n → ∃ b off, a = some ⟨b, off, none⟩ ∧ b < B ∧ w.cell? ⟨b, off + i, none⟩ = some (.int .u8 ((zs.getD i 0 : Nat) : Int))

theorem BV.up {B B' : Nat} {w : World} {a : Option Addr} {n : Nat} {zs : List Nat} (h : BV B w a n zs) (hB : B ≤ B') : BV B' w a n zs :=
  ⟨h.len, h.lt, fun i hi => by obtain ⟨b, off, e, hb, hc⟩ := h.cell i hi; exact ⟨b, off, e, by omega, hc⟩⟩

theorem BV.mono {B : Nat} {w w' : World} {a : Option Addr} {n : Nat} {zs : List Nat} (h : BV B w a n zs) (hb : Below B w w') : BV B w' a n zs :=
  ⟨h.len, h.lt, fun i hi => by obtain ⟨b, off, e, hB, hc⟩ := h.cell i hi; exact ⟨b, off, e, hB, (hb.cell (p := ⟨b, off + i, none⟩) hB).trans hc⟩⟩

theorem BV.nil (B : Nat) (w : World) (a : Option Addr) : BV B w a 0 [] := ⟨rfl, by simp, fun i hi => by omega⟩

theorem BV.drewN {B : Nat} {w : World} {a : Option Addr} {n : Nat} {zs : List Nat} (h : BV B w a n zs) {q : Nat} : BV B (w.drewN q) a n zs := ⟨h.len, h.lt, h.cell⟩

theorem BV.at {B : Nat} {w : World} {a : Option Addr} {n : Nat} {zs : List Nat} (h : BV B w a n zs) {i : Nat} (hi : i < n) :
    ∃ b off, a = some ⟨b, off, none⟩ ∧ b < B ∧ w.cell? ⟨b, off + i, none⟩ = some (.int .u8 ((zs.getD i 0 : Nat) : Int)) ∧ zs.getD i 0 < 256 := by
  obtain ⟨b, off, e, hb, hc⟩ := h.cell i hi
  refine ⟨b, off, e, hb, hc, ?_⟩
  have hi' : i < zs.length := by rw [h.len]; exact hi
  rw [List.getD, List.getElem?_eq_getElem hi']
  exact h.lt _ (List.getElem_mem hi')

theorem BV.take {B : Nat} {w : World} {a : Option Addr} {n : Nat} {zs : List Nat} (h : BV B w a n zs) {m : Nat} (hm : m ≤ n) : BV B w a m (zs.take m) := by
  refine ⟨by simp [h.len]; omega, fun z hz => h.lt z (List.mem_of_mem_take hz), fun i hi => ?_⟩
  obtain ⟨b, off, e, hb, hc⟩ := h.cell i (by omega)
  refine ⟨b, off, e, hb, ?_⟩
  rw [hc]
  simp [List.getD, hi]

theorem BV.dropIf {B : Nat} {w : World} {a : Option Addr} {n : Nat} {zs : List Nat} (h : BV B w a n zs) {m c : Nat} (hc : n ≤ c) {x : Option Addr} (hx : ¬ c = m → x = a.map (·.add m)) : BV B w x (n - m) (zs.drop m) := by
  refine ⟨by simp [h.len], fun z hz => h.lt z (List.mem_of_mem_drop hz), fun i hi => ?_⟩
  obtain ⟨b, off, e, hb, hcl⟩ := h.cell (m + i) (by omega)
  subst e
  refine ⟨b, off + m, by rw [hx (by omega)]; simp [Addr.add], hb, ?_⟩
  rw [Nat.add_assoc, hcl]
  simp [List.getD]

theorem own_BV {w : World} {base n c : Nat} {a : Option Addr} {zs : List Nat} (h : w.ownsRow base 5 1 (.slice a n c) n (u8s zs)) (hlt : ∀ z ∈ zs, z < 256) : BV w.heap.size w a n zs := by
  have hl : zs.length = n := by simpa [u8s_length] using h.1
  refine ⟨hl, hlt, fun i hi => ?_⟩
  rcases h.2 with ⟨_, h0⟩ | ⟨g, cap, cur, hv, _⟩
  · omega
  · simp only [Value.slice.injEq, true_and] at hv
    obtain ⟨rfl, rfl⟩ := hv
    have hc := h.cellAt i (by omega)
    rw [u8s_get (by omega)] at hc
    have hc' : w.cell? ⟨g, 0 + i, none⟩ = some (.int .u8 ((zs.getD i 0 : Nat) : Int)) := by rw [Nat.zero_add]; exact hc
    exact ⟨g, 0, rfl, World.block_lt_of_cell? w _ hc', hc'⟩

theorem own_len {w : World} {base e n c : Nat} {a : Option Addr} {xs : List Value} (h : w.ownsRow base e 1 (.slice a n c) n xs) : n ≤ c ∧ (a = none → n = 0 ∧ c = 0) := by
  rcases h.2 with ⟨hv, h0⟩ | ⟨g, cap, cur, hv, _, _, hc, _⟩
  · simp at hv; omega
  · simp at hv
    obtain ⟨rfl, rfl⟩ := hv
    exact ⟨hc, by simp⟩

theorem own_shape {w : World} {base e size n : Nat} {v : Value} {xs : List Value} (h : w.ownsRow base e size v n xs) : ∃ a c, v = .slice a n c := by
  rcases h.2 with ⟨rfl, rfl⟩ | ⟨g, cap, cur, rfl, _⟩
  · exact ⟨_, _, rfl⟩
  · exact ⟨_, _, rfl⟩

theorem own_below {w w' : World} {base e size n : Nat} {v : Value} {xs : List Value} (h : w.ownsRow base e size v n xs) (hb : Below w.heap.size w w') : w'.ownsRow base e size v n xs :=
  h.kept (row := none) ⟨hb.os, hb.tape, hb.output, hb.size, fun k hk _ => hb.block k hk⟩ (by cases v.ownBlock <;> simp)

theorem Try.info5 : (Try.prog.info? 5).map (fun i => (i.zero, i.size, i.bytes)) = some (some (.int .u8 0), 1, 1) := by kernel_rfl

/-! ### sameBytes: two rows of the same bytes: true; nothing turns but the draws -/
theorem BV.two {B B' : Nat} {w : World} {a a' : Option Addr} {n : Nat} {zs : List Nat} (h : BV B w a n zs) (h' : BV B' w a' n zs) {i : Nat} (hi : i < n) :
    ∃ b off b' off' z, a = some ⟨b, off, none⟩ ∧ a' = some ⟨b', off', none⟩ ∧ w.cell? ⟨b, off + i, none⟩ = some (.int .u8 z) ∧ w.cell? ⟨b', off' + i, none⟩ = some (.int .u8 z) := by
  obtain ⟨b, off, e, _, hc⟩ := h.cell i hi
  obtain ⟨b', off', e', _, hc'⟩ := h'.cell i hi
  exact ⟨b, off, b', off', _, e, e', hc, hc'⟩

set_option maxHeartbeats 400000 in
theorem sameBytes_same (a a' : Option Addr) (n c c' : Nat) (zs : List Nat) (w : World) (B B' : Nat) (h : BV B w a n zs) (h' : BV B' w a' n zs) (hn : n ≤ maxLen) :
    Calls Try.prog 12 #[.slice a n c, .slice a' n c'] w fun e w' => e = .returned (.bool true) ∧ ∃ q, w' = w.drewN q := by
  unfold maxLen at hn
  go_enter Try.func12, Try.ntmps12
  go_wp2
  go_loopw [5] (fun i wr => ∃ (k q : Nat), k ≤ n ∧ i = .int .i64 k ∧ wr = w.drewN q) (fun i _ => n - (intOf i).toNat)
  case atStart => exact ⟨0, 0, Nat.zero_le _, rfl, rfl⟩
  case round =>
    obtain ⟨k, q, hk, rfl, rfl⟩ := hrel
    by_cases hlt : k < n
    · obtain ⟨b, off, b', off', z, rfl, rfl, hc, hc'⟩ := h.two h' hlt
      clear h h'
      go_wp2
      go_quiet (fail)
      go_wp2
      go_roundw
      case rel => exact ⟨k + 1, _, by omega, by go_num, rfl⟩
      case measure => simp [intOf]; omega
    · clear h h'
      go_wp2
      go_ret
      exact ⟨rfl, _, rfl⟩

/-! ### cloneBytes: a new row of the same bytes; nothing that was there turns -/
set_option maxHeartbeats 1000000 in
theorem cloneBytes_any (a : Option Addr) (n c : Nat) (zs : List Nat) (w : World) (B : Nat) (h : BV B w a n zs) (hB : B ≤ w.heap.size) (hnil : a = none → n = 0 ∧ c = 0) (hn : n ≤ 1048576) :
    Calls Try.prog 10 #[.slice a n c] w fun e w' => ∃ a', e = .returned (.slice a' n n) ∧ w'.ownsRow w.heap.size 5 1 (.slice a' n n) n (u8s zs) ∧ Below w.heap.size w w' := by
  have hq := fun w' => Lib.run_eql_slice_nil (P := Try.prog) w' 22 5 a n c 0 0 Try.underlying22
  have hl := h.len
  cases a with
  | none =>
    obtain ⟨rfl, rfl⟩ := hnil rfl
    obtain rfl : zs = [] := List.eq_nil_of_length_eq_zero hl
    clear h hnil hl
    go_enter Try.func10, Try.ntmps10
    go_wp2
    go_ret
    exact ⟨none, rfl, World.ownsRow_nil _ _ _ _, Below.refl _ _⟩
  | some x =>
    clear hnil
    obtain ⟨i0, hi, hz0, hz1, hz2⟩ := info_parts Try.info5
    have HL : Hid (zs.length = n) := hl
    clear hl
    go_enter Try.func10, Try.ntmps10
    go_wp2_with (at_make; refine wpList_make_full _ rfl _ _ 22 rfl w.heap.size 5 i0 (.int .u8 0) 1 Try.underlying22 hi hz0 hz1 _ _ _ _ n rfl rfl rfl rfl ?b2 ?b3 ?b4 ?_)
    case b2 => rw [hz2]; omega
    case b3 => unfold maxLen; omega
    case b4 => exact Nat.le_refl _
    intro w1 hown hgrow
    have hb1 : Below w.heap.size w w1 := (Below.refl _ _).grown hgrow (Nat.le_refl _) (by simp)
    obtain ⟨cur, hgc, hcl⟩ : ∃ cur : List Value, w1.heap[w.heap.size]? = some (.cells cur.toArray 5 (0, 0)) ∧ cur.length = n := by
      rcases hown.2 with ⟨hv, _⟩ | ⟨g, cap, cur, hv, _, hg, _, _, hcs, _⟩
      · simp at hv
      · simp at hv
        obtain ⟨rfl, rfl⟩ := hv
        exact ⟨cur.toList, by simpa using hg, by simpa using hcs⟩
    have hsrc : ∀ j v, (u8s zs)[j]? = some v → w1.cell? (x.add j) = some v := by
      intro j v hv
      have hj : j < zs.length := by have := (List.getElem?_eq_some_iff.1 hv).1; rwa [u8s_length] at this
      obtain ⟨b, off, e, hb, hc, _⟩ := h.at (show j < n by rw [← HL.out]; exact hj)
      simp only [Option.some.injEq] at e
      subst e
      rw [u8s_get hj] at hv
      rw [Addr.add_lit, ← hv]
      exact (hb1.cell (p := ⟨b, off + j, none⟩) (by show b < _; omega)).trans hc
    have hul : (u8s zs).length = n := (u8s_length zs).trans HL.out
    obtain ⟨cs, hcs⟩ : ∃ cs, cs = u8s zs := ⟨_, rfl⟩
    rw [← hcs] at hsrc hul
    have h1c : ∀ u ∈ cs, u.oneCell' = true := by rw [hcs]; exact u8s_one zs
    have HC : Hid (cs = u8s zs) := hcs
    have HU : Hid (cs.length = n) := hul
    have HK : Hid (cur.length = n) := hcl
    clear hown hgrow hi hz0 hz1 hz2 hq h hcs hul hcl
    have hsz5 : (Try.prog.info? 5).map (·.size) = some 1 := by kernel_rfl
    have hlen : cs.length = Nat.min n n := by rw [HU.out]; simp
    have hfit : 0 + cs.length ≤ cur.length := by rw [HU.out, HK.out]; omega
    have H := And.intro hsz5 (And.intro hlen hfit)
    have HH : Hid ((Try.prog.info? 5).map (·.size) = some 1 ∧ cs.length = Nat.min n n ∧ 0 + cs.length ≤ cur.length) := H
    have HG : Hid (w1.heap[w.heap.size]? = some (.cells cur.toArray 5 (0, 0))) := hgc
    clear hsz5 hlen hfit H hgc
    go_wp2_with (refine wpList_copy_splice rfl (.tmp 9) (.tmp 10) 22 22 rfl 5 Try.underlying22 HH.out.1 _ _ n n n c rfl rfl w.heap.size 0 cur 5 HG.out cs HH.out.2.1 (fun _ => ⟨rfl, x, rfl, hsrc⟩) HH.out.2.2 h1c w.heap.size w hb1 (Nat.le_refl _) ?_)
    intro w2 hg2 hb2
    have F : w2.ownsRow w.heap.size 5 1 (.slice (some ⟨w.heap.size, 0, none⟩) n n) n (u8s zs) := by
      rw [← HC.out]
      have e : splice cur 0 cs = cs := by simp [splice, HU.out, HK.out]
      refine ⟨by rw [HU.out]; omega, .inr ⟨w.heap.size, n, cs.toArray, rfl, Nat.le_refl _, by rw [← e]; exact hg2.out, Nat.le_refl _, by unfold maxLen; omega, by simp [HU.out], by rw [Nat.mul_one]; exact List.take_of_length_le (by rw [HU.out]; exact Nat.le_refl _)⟩⟩
    clear hg2 HG hsrc h1c HH hb1
    go_wp2
    go_ret
    exact ⟨_, rfl, F, hb2⟩

end Go.Proofs.Qxb6600244a
