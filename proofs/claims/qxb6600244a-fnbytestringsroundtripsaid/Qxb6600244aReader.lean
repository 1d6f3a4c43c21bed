import Derived.Test.Qxb6600244aHead3
import Derived.Test.Qxb6600244aBsPlain
namespace Go.Proofs.Qxb6600244a
open Go.RowKit

/-- A reader in memory, and the bytes that it stands at. -/
structure Reads (B : Nat) (w : World) (g : Nat) (s : St) : Prop where
  ex : ∃ a n c, Rd w g a n c s.fl ∧ BV B w a n s.zs ∧ n ≤ c ∧ c ≤ maxLen

/-- Only block g has turned. -/
def Only (g : Nat) (w w' : World) : Prop := w.grownBy w' (some g)

theorem Only.refl (g : Nat) (w : World) : Only g w w := World.grownBy.refl _ _
theorem Only.set (g j : Nat) (w : World) (v : Value) : Only g w (w.setCell ⟨g, j, none⟩ v) :=
  ⟨rfl, rfl, rfl, by simp, fun k _ hk => heap_setCell_other w ⟨g, j, none⟩ k v (fun e => hk (by simp [e]))⟩
theorem Only.trans {g : Nat} {a b c : World} (h : Only g a b) (k : Only g b c) : Only g a c :=
  ⟨k.os.trans h.os, k.tape.trans h.tape, k.output.trans h.output, Nat.le_trans h.size k.size, fun i hi hne => (k.block i (Nat.lt_of_lt_of_le hi h.size) hne).trans (h.block i hi hne)⟩
theorem Only.below {g B : Nat} {w w' : World} (h : Only g w w') (hB : B ≤ g) (hg : g ≤ w.heap.size) : Below B w w' :=
  ⟨h.os, h.tape, h.output, h.size, fun k hk => h.block k (by omega) (by intro e; simp at e; omega)⟩

theorem Rd.lt {w : World} {g n c : Nat} {a : Option Addr} {fl : Bool} (h : Rd w g a n c fl) : g < w.heap.size := lt_of_block h

/-! ### array -/
/-- What behind a call of array is known. -/
def Arrd (B : Nat) (w : World) (g : Nat) (s : St) (e : Ending) (w' : World) : Prop :=
  e = .returned (.int .i64 (((arrS s).1 : Nat) : Int)) ∧ Reads B w' g (arrS s).2 ∧ Only g w w'

set_option maxHeartbeats 400000 in
theorem array_any (g : Nat) (s : St) (w : World) (B : Nat) (hB : B ≤ g) (h : Reads B w g s) (hl : s.zs.length ≤ 1073741824) :
    Calls Try.prog 30 #[.pointer (some ⟨g, 0, none⟩)] w fun e w' => Arrd B w g s e w' := by
  obtain ⟨zs, fl⟩ := s
  obtain ⟨a, n, c, hR, hV, hnc, hc⟩ := h.ex
  have hlen := hV.len
  simp only at hR hV hlen hl
  cases fl with
  | true =>
    have C := head_failed g 128 n c a w hR
    have hR' := hR.setF true
    obtain ⟨q0, q1, q2⟩ := hR'.cells
    have hO := Only.set g 1 w (.bool true)
    have F : Arrd B w g ⟨zs, true⟩ (.returned (.int .i64 0)) (w.setCell ⟨g, 1, none⟩ (.bool true)) := by
      unfold Arrd
      rw [arrS_failed rfl]
      exact ⟨rfl, ⟨a, n, c, hR', hV.mono (hO.below hB (Nat.le_of_lt hR.lt)), hnc, hc⟩, hO⟩
    obtain ⟨W, hW⟩ : ∃ W, W = w.setCell ⟨g, 1, none⟩ (.bool true) := ⟨_, rfl⟩
    rw [← hW] at q0 q1 q2 C F
    clear hW hR hR' hV hO h
    go_enter Try.func30, Try.ntmps30
    go_wp2_with (go_at_call 26; refine C.mono ?_; rintro e w' ⟨rfl, rfl⟩)
    go_ret
    exact F
  | false =>
    cases hh : hd 128 zs with
    | none =>
      have C := head_none g 128 n c a zs w B hR hV hh
      have hR' := hR.setF true
      obtain ⟨q0, q1, q2⟩ := hR'.cells
      have hO := Only.set g 1 w (.bool true)
      have F : Arrd B w g ⟨zs, false⟩ (.returned (.int .i64 0)) (w.setCell ⟨g, 1, none⟩ (.bool true)) := by
        unfold Arrd
        rw [arrS_none hh]
        exact ⟨rfl, ⟨a, n, c, hR', hV.mono (hO.below hB (Nat.le_of_lt hR.lt)), hnc, hc⟩, hO⟩
      obtain ⟨W, hW⟩ : ∃ W, W = w.setCell ⟨g, 1, none⟩ (.bool true) := ⟨_, rfl⟩
      rw [← hW] at q0 q1 q2 C F
      clear hW hR hR' hV hO h hh
      go_enter Try.func30, Try.ntmps30
      go_wp2_with (go_at_call 26; refine C.mono ?_; rintro e w' ⟨rfl, rfl⟩)
      go_ret
      exact F
    | some p =>
      obtain ⟨v, k⟩ := p
      have hks := hd_some hh
      have hvl := hd_lt hV.lt hh
      obtain ⟨a', ha', C⟩ := head_some g 128 n c v k a zs w B hR hV hh hnc hc
      have hR' := hR.setD a' (n - k) (c - k)
      have hO := Only.set g 0 w (.slice a' (n - k) (c - k))
      have hV' := (hV.mono (hO.below hB (Nat.le_of_lt hR.lt))).dropIf hnc ha'
      obtain ⟨q0, q1, q2⟩ := hR'.cells
      obtain ⟨N, hN⟩ : ∃ N, N = n - k := ⟨_, rfl⟩
      obtain ⟨D, hD⟩ : ∃ D, D = c - k := ⟨_, rfl⟩
      have hdl : (zs.drop k).length = N := by rw [List.length_drop]; omega
      have hN30 : N ≤ 1073741824 := by omega
      have hND : N ≤ D := by omega
      have hDm : D ≤ maxLen := by omega
      by_cases hv : N < v
      · have F : Arrd B w g ⟨zs, false⟩ (.returned (.int .i64 0)) ((w.setCell ⟨g, 0, none⟩ (.slice a' (n - k) (c - k))).setCell ⟨g, 1, none⟩ (.bool true)) := by
          unfold Arrd
          rw [arrS_short hh (by omega)]
          have hO2 := Only.set g 1 (w.setCell ⟨g, 0, none⟩ (.slice a' (n - k) (c - k))) (.bool true)
          exact ⟨rfl, ⟨a', n - k, c - k, hR'.setF true, hV'.mono (hO2.below hB (Nat.le_of_lt hR'.lt)), by omega, by omega⟩, hO.trans hO2⟩
        rw [← hN, ← hD] at q0 q1 q2 F C
        obtain ⟨W, hW⟩ : ∃ W, W = w.setCell ⟨g, 0, none⟩ (.slice a' N D) := ⟨_, rfl⟩
        rw [← hW] at q0 q1 q2 C F
        clear hW hR hR' hV hO h hh hV' hN hD hdl hks ha'
        have hvi : (N : Int) < (v : Int) := by omega
        go_enter Try.func30, Try.ntmps30
        go_wp2_with (go_at_call 26; refine C.mono ?_; rintro e w' ⟨rfl, rfl⟩)
        go_ret
        exact F
      · have F : Arrd B w g ⟨zs, false⟩ (.returned (.int .i64 (v : Int))) (w.setCell ⟨g, 0, none⟩ (.slice a' (n - k) (c - k))) := by
          unfold Arrd
          rw [arrS_some hh (by omega)]
          exact ⟨rfl, ⟨a', n - k, c - k, hR', hV', by omega, by omega⟩, hO⟩
        rw [← hN, ← hD] at q0 q1 q2 F C
        obtain ⟨W, hW⟩ : ∃ W, W = w.setCell ⟨g, 0, none⟩ (.slice a' N D) := ⟨_, rfl⟩
        rw [← hW] at q0 q1 q2 C F
        clear hW hR hR' hV hO h hh hV' hN hD hdl hks ha'
        have hvi : ¬ (N : Int) < (v : Int) := by omega
        go_enter Try.func30, Try.ntmps30
        go_wp2_with (go_at_call 26; refine C.mono ?_; rintro e w' ⟨rfl, rfl⟩)
        go_ret
        exact F

end Go.Proofs.Qxb6600244a
