import Derived.Test.Qxb6600244aHeadWalk
import Derived.Test.Qxb6600244aBs
namespace Go.Proofs.Qxb6600244a
open Go.RowKit

/-- What the walk is told of a slice of slices of bytes that came in. -/
structure RowA (w : World) (a : Option Addr) (n c : Nat) (L : List (List Nat)) : Prop where
  len : L.length = n
  nil : a = none → n = 0 ∧ c = 0
  le : n ≤ c
  max : c ≤ maxLen
  cell : ∀ i, i < n → ∃ b off ai ni ci, a = some ⟨b, off, none⟩ ∧ b < w.heap.size ∧ w.cell? ⟨b, off + i, none⟩ = some (.slice ai ni ci) ∧ ArgB w ai ni ci (L.getD i [])

theorem BV.keep {B : Nat} {w : World} {a : Option Addr} {n : Nat} {zs : List Nat} (h : BV B w a n zs) {g j : Nat} (v : Value) (hne : ∀ x, a = some x → x.block ≠ g) : BV B (w.setCell ⟨g, j, none⟩ v) a n zs :=
  ⟨h.len, h.lt, fun i hi => by
    obtain ⟨b, off, e, hb, hc⟩ := h.cell i hi
    refine ⟨b, off, e, hb, ?_⟩
    rw [World.cell?_of_block (w := w) (heap_setCell_other w ⟨g, j, none⟩ b v (hne _ e))]
    exact hc⟩

/-- The first k cells of a row are new slices that lead to the bytes of L. -/
def ItsC (g : Nat) (w : World) (vs : List Value) (k : Nat) (L : List (List Nat)) : Prop :=
  ∀ j, j < k → ∃ aj nj, vs[j]? = some (.slice aj nj nj) ∧ (∀ x, aj = some x → g < x.block) ∧ (aj = none → nj = 0) ∧ BV w.heap.size w aj nj (L.getD j [])

theorem own_lo {w : World} {base n c : Nat} {a : Option Addr} {xs : List Value} (h : w.ownsRow base 5 1 (.slice a n c) n xs) : ∀ x, a = some x → base ≤ x.block := by
  intro x hx
  exact (h.lt x.block (by rw [hx]; rfl)).1

/-- One cell more of the copy. -/
theorem itsC_step {g k n : Nat} {wr w1 : World} {vs : List Value} {L : List (List Nat)} (h : ItsC g wr vs k L) (hb : Below wr.heap.size wr w1) (hg : g < wr.heap.size) {a : Option Addr} {m : Nat} (ho : w1.ownsRow wr.heap.size 5 1 (.slice a m m) m (u8s (L.getD k []))) (hlt : ∀ z ∈ L.getD k [], z < 256) (hk : k < vs.length) :
    ItsC g (w1.setCell ⟨g, n, none⟩ (.slice a m m)) (vs.set k (.slice a m m)) (k + 1) L := by
  have hsz : (w1.setCell ⟨g, n, none⟩ (.slice a m m)).heap.size = w1.heap.size := by simp
  intro j hj
  by_cases e : j = k
  · subst e
    have hlo := own_lo ho
    refine ⟨a, m, by simp [hk], fun x hx => by have := hlo x hx; omega, fun hx => ((own_len ho).2 hx).1, ?_⟩
    rw [hsz]
    exact (own_BV ho hlt).keep _ (fun x hx => by have := hlo x hx; omega)
  · obtain ⟨aj, nj, h1, h2, h3, h4⟩ := h j (by omega)
    refine ⟨aj, nj, by rw [List.getElem?_set_ne (by omega)]; exact h1, h2, h3, ?_⟩
    rw [hsz]
    exact ((h4.mono hb).up hb.size).keep _ (fun x hx => by have := h2 x hx; omega)

set_option maxRecDepth 100000 in
set_option maxHeartbeats 2000000 in
theorem cloneBuf_any (a : Option Addr) (n c : Nat) (L : List (List Nat)) (w : World) (h : RowA w a n c L) (hn : n ≤ 1048576) (hl : ∀ j, j < n → (L.getD j []).length ≤ 1048576) :
    Calls Try.prog 18 #[.slice a n c] w fun e w' => ∃ (a' : Option Addr) (vs : List Value), e = .returned (.slice a' n n) ∧ w'.ownsRow w.heap.size 22 1 (.slice a' n n) n vs ∧ ItsC w.heap.size w' vs n L ∧ Below w.heap.size w w' := by
  have hq := fun w' => Lib.run_eql_slice_nil (P := Try.prog) w' 36 22 a n c 0 0 Try.underlying36
  cases a with
  | none =>
    obtain ⟨rfl, rfl⟩ := h.nil rfl
    clear h hl
    go_enter Try.func18, Try.ntmps18
    go_wp2
    go_ret
    exact ⟨none, [], rfl, World.ownsRow_nil _ _ _ _, fun j hj => by omega, Below.refl _ _⟩
  | some x =>
    obtain ⟨i0, hi, hz0, hz1, hz2⟩ := info_parts Try.info22
    go_enter Try.func18, Try.ntmps18
    go_wp2_with (at_make; refine wpList_make_full _ rfl _ _ 36 rfl w.heap.size 22 i0 (.slice none 0 0) 1 Try.underlying36 hi hz0 hz1 _ _ _ _ n rfl rfl rfl rfl ?b2 ?b3 ?b4 ?_)
    case b2 => rw [hz2]; omega
    case b3 => unfold maxLen; omega
    case b4 => exact Nat.le_refl _
    intro w1 hown hgrow
    have hb1 : Below w.heap.size w w1 := (Below.refl _ _).grown hgrow (Nat.le_refl _) (by simp)
    have HO := (show Hid _ from hown)
    have hz1' : w.heap.size < w1.heap.size := by
      rcases hown.2 with ⟨hv, _⟩ | ⟨g, cap, cur, hv, _, hh, _⟩
      · simp at hv
      · simp at hv
        have := lt_of_block hh
        omega
    clear hown hgrow hi hz0 hz1 hz2 hq
    go_wp2
    go_loopw [4] (fun i wr => ∃ (k : Nat) (vs : List Value), k ≤ n ∧ i = .int .i64 k ∧ wr.ownsRow w.heap.size 22 1 (.slice (some ⟨w.heap.size, 0, none⟩) n n) n vs ∧ ItsC w.heap.size wr vs k L ∧ Below w.heap.size w wr ∧ w.heap.size < wr.heap.size) (fun i _ => n - (intOf i).toNat)
    case atStart => exact ⟨0, _, Nat.zero_le _, rfl, HO.out, fun j hj => by omega, hb1, hz1'⟩
    case round =>
      clear HO hb1 hz1'
      obtain ⟨k, vs, hk, rfl, hown, hits, hbl, hsz⟩ := hrel
      by_cases hlt : k < n
      · have hlti : (k : Int) < (n : Int) := by omega
        obtain ⟨b, off, ai, ni, ci, e, hb, hc, hA⟩ := h.cell k hlt
        simp only [Option.some.injEq] at e
        subst e
        have hc' : wr.cell? ⟨b, off + k, none⟩ = some (.slice ai ni ci) := (hbl.cell (p := ⟨b, off + k, none⟩) hb).trans hc
        have hni : ni ≤ 1048576 := by have := hl k hlt; rw [hA.bv.len] at this; exact this
        have C := cloneBytes_any ai ni ci (L.getD k []) wr w.heap.size (hA.bv.mono hbl) (by omega) hA.nil hni
        have C2 : Calls Try.prog 10 #[.slice ai ni ci] wr fun e w' => ∃ a', e = .returned (.slice a' ni ni) ∧ (∃ u, w'.cell? ⟨w.heap.size, k, none⟩ = some u) ∧ w'.frozen? ⟨w.heap.size, k, none⟩ = false ∧
            Hid (∃ vs', (w'.setCell ⟨w.heap.size, k, none⟩ (.slice a' ni ni)).ownsRow w.heap.size 22 1 (.slice (some ⟨w.heap.size, 0, none⟩) n n) n vs' ∧ ItsC w.heap.size (w'.setCell ⟨w.heap.size, k, none⟩ (.slice a' ni ni)) vs' (k + 1) L ∧
              Below w.heap.size w (w'.setCell ⟨w.heap.size, k, none⟩ (.slice a' ni ni)) ∧ w.heap.size < (w'.setCell ⟨w.heap.size, k, none⟩ (.slice a' ni ni)).heap.size) := by
          refine C.mono ?_
          rintro e w' ⟨a', rfl, ho, hbb⟩
          have hown' := own_below hown hbb
          obtain ⟨gr, u, hge, _, hcu, hfu⟩ := own_at hown' hlt
          simp only [Option.some.injEq, Addr.mk.injEq, and_true] at hge
          subst hge
          refine ⟨a', rfl, ⟨u, hcu⟩, hfu, vs.set k (.slice a' ni ni), (hown'.stored k _).1, itsC_step hits hbb hsz ho hA.bv.lt (by have := hown.1; omega), ?_, by have := hbb.size; simp; omega⟩
          exact (hbl.trans (hbb.mono (by omega))).setCell (p := ⟨w.heap.size, k, none⟩) (Nat.le_refl _) _
        clear C hA hc h hits hown hl
        go_wp2_with (go_at_call 10; refine C2.mono ?_; rintro e w' ⟨a', rfl, ⟨u, hcu⟩, hfu, HR⟩)
        go_roundw
        case rel =>
          obtain ⟨vs', r1, r2, r3, r4⟩ := HR.out
          exact ⟨k + 1, vs', by omega, by go_num, r1, r2, r3, r4⟩
        case measure => simp [intOf]; omega
      · obtain rfl : k = n := by omega
        have R := (show Hid _ from And.intro hown (And.intro hits hbl))
        clear hown hits hbl h hl
        go_wp2
        go_ret
        exact ⟨_, _, rfl, R.out.1, R.out.2.1, R.out.2.2⟩

end Go.Proofs.Qxb6600244a
