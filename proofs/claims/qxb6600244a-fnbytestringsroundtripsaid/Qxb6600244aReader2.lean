import Derived.Test.Qxb6600244aReader
namespace Go.Proofs.Qxb6600244a
open Go.RowKit

/-! ### bytes -/
/-- What behind a call of bytes is known. -/
def Byd (B : Nat) (w : World) (g : Nat) (s : St) (e : Ending) (w' : World) : Prop :=
  ∃ ai ni ci, e = .returned (.slice ai ni ci) ∧ BV B w' ai ni (oneS s).1 ∧ Reads B w' g (oneS s).2 ∧ Only g w w'

set_option maxHeartbeats 400000 in
theorem bytes_failed (g n c : Nat) (a : Option Addr) (W : World) (q0 : W.cell? ⟨g, 0, none⟩ = some (.slice a n c)) (q2 : ∀ j, W.frozen? ⟨g, j, none⟩ = false) (w : World)
    (C : Calls Try.prog 26 #[.pointer (some ⟨g, 0, none⟩), .int .u8 64] w fun e w' => e = .returned (.int .u64 0) ∧ w' = W) :
    Calls Try.prog 31 #[.pointer (some ⟨g, 0, none⟩)] w fun e w' => e = .returned (.slice a 0 c) ∧ w' = W.setCell ⟨g, 0, none⟩ (.slice a n c) := by
  go_enter Try.func31, Try.ntmps31
  go_wp2_with (go_at_call 26; refine C.mono ?_; rintro e w' ⟨rfl, rfl⟩)
  go_ret
  exact ⟨rfl, rfl⟩

set_option maxHeartbeats 400000 in
theorem bytes_short (g n c v : Nat) (a : Option Addr) (W : World) (q0 : W.cell? ⟨g, 0, none⟩ = some (.slice a n c)) (q1 : W.cell? ⟨g, 1, none⟩ = some (.bool false)) (q2 : ∀ j, W.frozen? ⟨g, j, none⟩ = false) (hn : n ≤ 1073741824) (hv : n < v) (w : World)
    (C : Calls Try.prog 26 #[.pointer (some ⟨g, 0, none⟩), .int .u8 64] w fun e w' => e = .returned (.int .u64 (v : Int)) ∧ w' = W) :
    Calls Try.prog 31 #[.pointer (some ⟨g, 0, none⟩)] w fun e w' => e = .returned (.slice none 0 0) ∧ w' = W.setCell ⟨g, 1, none⟩ (.bool true) := by
  have hvi : (n : Int) < (v : Int) := by omega
  go_enter Try.func31, Try.ntmps31
  go_wp2_with (go_at_call 26; refine C.mono ?_; rintro e w' ⟨rfl, rfl⟩)
  go_ret
  exact ⟨rfl, rfl⟩

set_option maxHeartbeats 400000 in
theorem bytes_ok (g n c v : Nat) (a : Option Addr) (W : World) (q0 : W.cell? ⟨g, 0, none⟩ = some (.slice a n c)) (q2 : ∀ j, W.frozen? ⟨g, j, none⟩ = false) (hn : n ≤ 1073741824) (hv : v ≤ n) (hnc : n ≤ c) (w : World)
    (C : Calls Try.prog 26 #[.pointer (some ⟨g, 0, none⟩), .int .u8 64] w fun e w' => e = .returned (.int .u64 (v : Int)) ∧ w' = W) :
    Calls Try.prog 31 #[.pointer (some ⟨g, 0, none⟩)] w fun e w' => e = .returned (.slice a v c) ∧ w' = W.setCell ⟨g, 0, none⟩ (.slice (if c = v then a else a.map (·.add v)) (n - v) (c - v)) := by
  have hvi : ¬ (n : Int) < (v : Int) := by omega
  have hvi' : (v : Int) ≤ (n : Int) := by omega
  have hvc : (v : Int) ≤ (c : Int) := by omega
  by_cases hcv : c = v
  · subst hcv
    go_enter Try.func31, Try.ntmps31
    go_wp2_with (go_at_call 26; refine C.mono ?_; rintro e w' ⟨rfl, rfl⟩)
    go_ret
    exact ⟨rfl, rfl⟩
  · go_enter Try.func31, Try.ntmps31
    go_wp2_with (go_at_call 26; refine C.mono ?_; rintro e w' ⟨rfl, rfl⟩)
    go_ret
    exact ⟨rfl, rfl⟩

theorem bytes_any (g : Nat) (s : St) (w : World) (B : Nat) (hB : B ≤ g) (h : Reads B w g s) (hl : s.zs.length ≤ 1073741824) :
    Calls Try.prog 31 #[.pointer (some ⟨g, 0, none⟩)] w fun e w' => Byd B w g s e w' := by
  obtain ⟨zs, fl⟩ := s
  obtain ⟨a, n, c, hR, hV, hnc, hc⟩ := h.ex
  have hlen := hV.len
  simp only at hR hV hlen hl
  cases fl with
  | true =>
    have C := head_failed g 64 n c a w hR
    have hR' := hR.setF true
    obtain ⟨q0, q1, q2⟩ := hR'.cells
    have hO := Only.set g 1 w (.bool true)
    refine (bytes_failed g n c a _ q0 q2 w C).mono ?_
    rintro e w' ⟨rfl, rfl⟩
    have hO2 := hO.trans (Only.set g 0 (w.setCell ⟨g, 1, none⟩ (.bool true)) (.slice a n c))
    unfold Byd
    rw [oneS_failed rfl]
    exact ⟨a, 0, c, rfl, BV.nil _ _ _, ⟨a, n, c, hR'.setD a n c, hV.mono (hO2.below hB (Nat.le_of_lt hR.lt)), hnc, hc⟩, hO2⟩
  | false =>
    cases hh : hd 64 zs with
    | none =>
      have C := head_none g 64 n c a zs w B hR hV hh
      have hR' := hR.setF true
      obtain ⟨q0, q1, q2⟩ := hR'.cells
      have hO := Only.set g 1 w (.bool true)
      refine (bytes_failed g n c a _ q0 q2 w C).mono ?_
      rintro e w' ⟨rfl, rfl⟩
      have hO2 := hO.trans (Only.set g 0 (w.setCell ⟨g, 1, none⟩ (.bool true)) (.slice a n c))
      unfold Byd
      rw [oneS_none hh]
      exact ⟨a, 0, c, rfl, BV.nil _ _ _, ⟨a, n, c, hR'.setD a n c, hV.mono (hO2.below hB (Nat.le_of_lt hR.lt)), hnc, hc⟩, hO2⟩
    | some p =>
      obtain ⟨v, k⟩ := p
      have hks := hd_some hh
      obtain ⟨a', ha', C⟩ := head_some g 64 n c v k a zs w B hR hV hh hnc hc
      have hR' := hR.setD a' (n - k) (c - k)
      have hO := Only.set g 0 w (.slice a' (n - k) (c - k))
      have hV' := (hV.mono (hO.below hB (Nat.le_of_lt hR.lt))).dropIf hnc ha'
      obtain ⟨q0, q1, q2⟩ := hR'.cells
      have hdl : (zs.drop k).length = n - k := by rw [List.length_drop]; omega
      by_cases hv : n - k < v
      · refine (bytes_short g (n - k) (c - k) v a' _ q0 q1 q2 (by omega) hv w C).mono ?_
        rintro e w' ⟨rfl, rfl⟩
        have hO2 := Only.set g 1 (w.setCell ⟨g, 0, none⟩ (.slice a' (n - k) (c - k))) (.bool true)
        unfold Byd
        rw [oneS_short hh (by omega)]
        exact ⟨none, 0, 0, rfl, BV.nil _ _ _, ⟨a', n - k, c - k, hR'.setF true, hV'.mono (hO2.below hB (Nat.le_of_lt hR'.lt)), by omega, by omega⟩, hO.trans hO2⟩
      · refine (bytes_ok g (n - k) (c - k) v a' _ q0 q2 (by omega) (by omega) (by omega) w C).mono ?_
        rintro e w' ⟨rfl, rfl⟩
        have hO2 := Only.set g 0 (w.setCell ⟨g, 0, none⟩ (.slice a' (n - k) (c - k))) (.slice (if c - k = v then a' else a'.map (·.add v)) (n - k - v) (c - k - v))
        have hV2 := hV'.mono (hO2.below hB (Nat.le_of_lt hR'.lt))
        unfold Byd
        rw [oneS_some hh (by omega)]
        exact ⟨a', v, c - k, rfl, hV2.take (by omega), ⟨_, _, _, hR'.setD _ _ _, hV2.dropIf (m := v) (c := c - k) (by omega) (fun h => by rw [if_neg h]), by omega, by omega⟩, hO.trans hO2⟩

end Go.Proofs.Qxb6600244a
