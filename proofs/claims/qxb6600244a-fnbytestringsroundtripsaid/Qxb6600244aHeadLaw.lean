import Derived.Test.Qxb6600244aHead3
import Derived.Test.Qxb6600244aEnc
namespace Go.Proofs.Qxb6600244a
open Go.RowKit

/-! ### The plain law -/
theorem encH_length (m N f : Nat) : (encH m N f).length = 1 + formSz f := by unfold encH; rw [List.length_cons, beB_length]; omega
theorem encH_lt {m N f : Nat} (h : m + infoOf N f < 256) : ∀ z ∈ encH m N f, z < 256 := by
  intro z hz
  unfold encH at hz
  rcases List.mem_cons.1 hz with rfl | hz
  · exact h
  · exact beB_lt _ _ z hz
theorem infoOf_lt {N f : Nat} (hf : f ≤ 4) (h0 : f = 0 → N < 24) : infoOf N f < 32 := by unfold infoOf; split <;> omega
theorem info_size {N f : Nat} (hf : f ≤ 4) (h0 : ¬ f = 0) : sizeOfInfo (infoOf N f) = formSz f ∧ 24 ≤ infoOf N f ∧ infoOf N f ≤ 27 := by
  unfold infoOf formSz sizeOfInfo
  rcases (show f = 1 ∨ f = 2 ∨ f = 3 ∨ f = 4 by omega) with rfl | rfl | rfl | rfl <;> simp

theorem fits_spec {N f : Nat} (hf : f ≤ 4) (hN : N < 18446744073709551616) (h : fitsB N f = true) : (f = 0 → N < 24) ∧ (¬ f = 0 → N < 256 ^ formSz f) := by
  unfold fitsB at h
  unfold formSz
  rcases (show f = 0 ∨ f = 1 ∨ f = 2 ∨ f = 3 ∨ f = 4 by omega) with rfl | rfl | rfl | rfl | rfl <;> simp at h ⊢ <;> omega

theorem hd_enc {k N f : Nat} {tail : List Nat} (hf : f ≤ 4) (h0 : f = 0 → N < 24) (h1 : ¬ f = 0 → N < 256 ^ formSz f) : hd (k * 32) (encH (k * 32) N f ++ tail) = some (N, 1 + formSz f) := by
  have hi := infoOf_lt hf h0
  have hg : (encH (k * 32) N f ++ tail).getD 0 0 = k * 32 + infoOf N f := by simp [encH, List.getD]
  have hl : (encH (k * 32) N f ++ tail).length = 1 + formSz f + tail.length := by rw [List.length_append, encH_length]
  by_cases hf0 : f = 0
  · subst hf0
    have e : infoOf N 0 = N := rfl
    rw [hd_small (by omega) (by rw [hg]; omega) (by rw [hg, e]; have := h0 rfl; omega), hg, e]
    have := h0 rfl
    have e2 : (k * 32 + N) % 32 = N := by omega
    rw [e2]
    rfl
  · obtain ⟨hs, h24, h27⟩ := info_size (N := N) hf hf0
    have e2 : (k * 32 + infoOf N f) % 32 = infoOf N f := by omega
    rw [hd_long (s := formSz f) (by rw [hg]; omega) (by rw [hg, e2]; exact h27) (by rw [hg, e2]; exact h24) (by rw [hg, e2]; exact hs) (by omega)]
    have e3 : (encH (k * 32) N f ++ tail).drop 1 = beB (formSz f) N ++ tail := by simp [encH]
    rw [e3, List.take_left' (beB_length _ _), be_beB _ _ (h1 hf0)]

theorem hd_other {k o N f : Nat} {tail : List Nat} (hf : f ≤ 4) (h0 : f = 0 → N < 24) (hko : ¬ o = k) : hd (o * 32) (encH (k * 32) N f ++ tail) = none := by
  have hi := infoOf_lt hf h0
  have hg : (encH (k * 32) N f ++ tail).getD 0 0 = k * 32 + infoOf N f := by simp [encH, List.getD]
  exact hd_major (by rw [hg]; omega)

/-! ### ZZHead -/
set_option maxHeartbeats 400000 in
theorem zzHead_some (m n c v k : Nat) (a : Option Addr) (zs : List Nat) (w : World) (B : Nat) (hBw : B ≤ w.heap.size) (hB : BV B w a n zs) (h : hd m zs = some (v, k)) (hnc : n ≤ c) (hc : c ≤ maxLen) :
    Calls Try.prog 16 #[.slice a n c, .bool false, .int .u8 (m : Int)] w fun e w' => ∃ a', e = .returned (.tuple #[.int .u64 (v : Int), .slice a' (n - k) (c - k), .bool false]) ∧ BV B w' a' (n - k) (zs.drop k) ∧ Below w.heap.size w w' := by
  have hb : Below w.heap.size w (w.alloc (.cells #[.slice a n c, .bool false] 50)) := (Below.refl _ _).alloc (Nat.le_refl _) _
  have hR : Rd (w.alloc (.cells #[.slice a n c, .bool false] 50)) w.heap.size a n c false := heap_alloc_new w _
  obtain ⟨a', ha', C⟩ := head_some w.heap.size m n c v k a zs _ B hR (hB.mono (hb.mono hBw)) h hnc hc
  have hR' := hR.setD a' (n - k) (c - k)
  obtain ⟨q0, q1, q2⟩ := hR'.cells
  have hb' : Below w.heap.size w ((w.alloc (.cells #[.slice a n c, .bool false] 50)).setCell ⟨w.heap.size, 0, none⟩ (.slice a' (n - k) (c - k))) := hb.setCell (p := ⟨w.heap.size, 0, none⟩) (Nat.le_refl _) _
  have hB' := hB.mono (hb'.mono hBw)
  have hD := hB'.dropIf hnc ha'
  obtain ⟨W, hW⟩ : ∃ W, W = ((w.alloc (.cells #[.slice a n c, .bool false] 50)).setCell ⟨w.heap.size, 0, none⟩ (.slice a' (n - k) (c - k))) := ⟨_, rfl⟩
  rw [← hW] at q0 q1 q2 hb' hD C
  clear hW hB' hR hR' hb ha' hB
  go_enter Try.func16, Try.ntmps16
  go_wp2_with (go_at_call 26; refine C.mono ?_; rintro e w' ⟨rfl, rfl⟩)
  go_quiet (fail)
  go_wp2
  go_ret3
  exact ⟨a', rfl, hD.drewN, below_drewN hb' _⟩

set_option maxHeartbeats 400000 in
theorem zzHead_none (m n c : Nat) (a : Option Addr) (zs : List Nat) (w : World) (B : Nat) (hBw : B ≤ w.heap.size) (hB : BV B w a n zs) (h : hd m zs = none) :
    Calls Try.prog 16 #[.slice a n c, .bool false, .int .u8 (m : Int)] w fun e w' => e = .returned (.tuple #[.int .u64 0, .slice a n c, .bool true]) ∧ Below w.heap.size w w' := by
  have hb : Below w.heap.size w (w.alloc (.cells #[.slice a n c, .bool false] 50)) := (Below.refl _ _).alloc (Nat.le_refl _) _
  have hR : Rd (w.alloc (.cells #[.slice a n c, .bool false] 50)) w.heap.size a n c false := heap_alloc_new w _
  have C := head_none w.heap.size m n c a zs _ B hR (hB.mono (hb.mono hBw)) h
  have hR' := hR.setF true
  obtain ⟨q0, q1, q2⟩ := hR'.cells
  have hb' : Below w.heap.size w ((w.alloc (.cells #[.slice a n c, .bool false] 50)).setCell ⟨w.heap.size, 1, none⟩ (.bool true)) := hb.setCell (p := ⟨w.heap.size, 1, none⟩) (Nat.le_refl _) _
  obtain ⟨W, hW⟩ : ∃ W, W = ((w.alloc (.cells #[.slice a n c, .bool false] 50)).setCell ⟨w.heap.size, 1, none⟩ (.bool true)) := ⟨_, rfl⟩
  rw [← hW] at q0 q1 q2 hb' C
  clear hW hR hR' hb hB
  go_enter Try.func16, Try.ntmps16
  go_wp2_with (go_at_call 26; refine C.mono ?_; rintro e w' ⟨rfl, rfl⟩)
  go_quiet (fail)
  go_wp2
  go_ret3
  exact ⟨rfl, below_drewN hb' _⟩

end Go.Proofs.Qxb6600244a
