import Derived.Test.Qxb6600244aHead
namespace Go.Proofs.Qxb6600244a
open Go.RowKit

set_option maxHeartbeats 2000000 in
theorem head_long (g m b off n c z i s : Nat) (zs : List Nat) (w : World) (B : Nat) (hR : Rd w g (some ⟨b, off, none⟩) n c false) (hB : BV B w (some ⟨b, off, none⟩) n zs) (hz : w.cell? ⟨b, off, none⟩ = some (.int .u8 (z : Int))) (hz' : z < 256)
    (hm : z / 32 * 32 = m) (hi : z % 32 = i) (his : (i = 24 ∧ s = 1) ∨ (i = 25 ∧ s = 2) ∨ (i = 26 ∧ s = 4) ∨ (i = 27 ∧ s = 8)) (hs : 1 + s ≤ n) (hnc : n ≤ c) (hc : c ≤ maxLen) :
    Calls Try.prog 26 #[.pointer (some ⟨g, 0, none⟩), .int .u8 (m : Int)] w fun e w' => e = .returned (.int .u64 ((be ((zs.drop 1).take s) : Nat) : Int)) ∧
      w' = w.setCell ⟨g, 0, none⟩ (.slice (if c = 1 + s then some ⟨b, off, none⟩ else some ⟨b, off + (1 + s), none⟩) (n - (1 + s)) (c - (1 + s))) := by
  unfold maxLen at hc
  obtain ⟨h0, h1, hf⟩ := hR.cells
  have hn' : (0 : Int) < n := by omega
  have hne : ((n : Int) == 0) = false := by simp; omega
  have ha := and224 z hz'
  rw [hm] at ha
  clear hm
  have hzi : (z : Int) % 32 = (i : Int) := by omega
  have hc1 : ¬ c = 1 := by omega
  obtain ⟨l, hl⟩ : ∃ l, l = (zs.drop 1).take s := ⟨_, rfl⟩
  have hL : BV B w (some ⟨b, off + 1, none⟩) s l := by
    have h := (hB.dropIf (m := 1) hnc (x := some ⟨b, off + 1, none⟩) (fun _ => by simp [Addr.add])).take (m := s) (by omega)
    rwa [← hl] at h
  rw [← hl]
  have HL : Hid (l = (zs.drop 1).take s) := hl
  clear hl hB hR
  have hs8 : s ≤ 8 := by omega
  rcases his with ⟨rfl, rfl⟩ | ⟨rfl, rfl⟩ | ⟨rfl, rfl⟩ | ⟨rfl, rfl⟩
  · simp only [Int.cast_ofNat_Int] at hzi
    go_enter Try.func26, Try.ntmps26
    go_wp2
    go_loop [7, 87] (fun t i => ∃ k : Nat, k ≤ 1 ∧ i = .int .i64 k ∧ t = .int .u64 ((be (l.take k) : Nat) : Int)) (fun _ i => 1 - (intOf i).toNat)
    case atStart => exact ⟨0, Nat.zero_le _, rfl, rfl⟩
    case round =>
      obtain ⟨k, hk, rfl, rfl⟩ := hrel
      by_cases hlt : k < 1
      · obtain ⟨b', off', e, _, hck, hlk⟩ := hL.at hlt
        simp only [Option.some.injEq, Addr.mk.injEq, and_true] at e
        obtain ⟨rfl, rfl⟩ := e
        have hbe := be_take_lt hL.lt (k := k) (j := 7) (by omega)
        have hsu := be_take_succ (l := l) (k := k) (by rw [hL.len]; exact hlt)
        obtain ⟨y, hy⟩ : ∃ y, y = l.getD k 0 := ⟨_, rfl⟩
        obtain ⟨t, ht⟩ : ∃ t, t = be (l.take k) := ⟨_, rfl⟩
        rw [← hy] at hck hlk hsu
        rw [← ht] at hbe hsu
        rw [← ht]
        have HS : Hid (be (l.take (k + 1)) = t * 256 + y) := hsu
        have hor := or_u64 t y hbe hlk
        clear hL hsu hy ht
        go_wp2
        go_round
        case rel => exact ⟨k + 1, by omega, by go_num, by rw [HS.out]; go_num⟩
        case measure => simp [intOf]; omega
      · obtain rfl : k = 1 := by omega
        have hfull : l.take 1 = l := List.take_of_length_le (by rw [hL.len]; exact Nat.le_refl _)
        rw [hfull]
        clear hL hfull
        by_cases hcs : c = 2
        · subst hcs
          go_wp2
          go_ret
          exact ⟨rfl, rfl⟩
        · go_wp2
          go_ret
          exact ⟨rfl, rfl⟩
  · simp only [Int.cast_ofNat_Int] at hzi
    go_enter Try.func26, Try.ntmps26
    go_wp2
    go_loop [7, 87] (fun t i => ∃ k : Nat, k ≤ 2 ∧ i = .int .i64 k ∧ t = .int .u64 ((be (l.take k) : Nat) : Int)) (fun _ i => 2 - (intOf i).toNat)
    case atStart => exact ⟨0, Nat.zero_le _, rfl, rfl⟩
    case round =>
      obtain ⟨k, hk, rfl, rfl⟩ := hrel
      by_cases hlt : k < 2
      · obtain ⟨b', off', e, _, hck, hlk⟩ := hL.at hlt
        simp only [Option.some.injEq, Addr.mk.injEq, and_true] at e
        obtain ⟨rfl, rfl⟩ := e
        have hbe := be_take_lt hL.lt (k := k) (j := 7) (by omega)
        have hsu := be_take_succ (l := l) (k := k) (by rw [hL.len]; exact hlt)
        obtain ⟨y, hy⟩ : ∃ y, y = l.getD k 0 := ⟨_, rfl⟩
        obtain ⟨t, ht⟩ : ∃ t, t = be (l.take k) := ⟨_, rfl⟩
        rw [← hy] at hck hlk hsu
        rw [← ht] at hbe hsu
        rw [← ht]
        have HS : Hid (be (l.take (k + 1)) = t * 256 + y) := hsu
        have hor := or_u64 t y hbe hlk
        clear hL hsu hy ht
        go_wp2
        go_round
        case rel => exact ⟨k + 1, by omega, by go_num, by rw [HS.out]; go_num⟩
        case measure => simp [intOf]; omega
      · obtain rfl : k = 2 := by omega
        have hfull : l.take 2 = l := List.take_of_length_le (by rw [hL.len]; exact Nat.le_refl _)
        rw [hfull]
        clear hL hfull
        by_cases hcs : c = 3
        · subst hcs
          go_wp2
          go_ret
          exact ⟨rfl, rfl⟩
        · go_wp2
          go_ret
          exact ⟨rfl, rfl⟩
  · simp only [Int.cast_ofNat_Int] at hzi
    go_enter Try.func26, Try.ntmps26
    go_wp2
    go_loop [7, 87] (fun t i => ∃ k : Nat, k ≤ 4 ∧ i = .int .i64 k ∧ t = .int .u64 ((be (l.take k) : Nat) : Int)) (fun _ i => 4 - (intOf i).toNat)
    case atStart => exact ⟨0, Nat.zero_le _, rfl, rfl⟩
    case round =>
      obtain ⟨k, hk, rfl, rfl⟩ := hrel
      by_cases hlt : k < 4
      · obtain ⟨b', off', e, _, hck, hlk⟩ := hL.at hlt
        simp only [Option.some.injEq, Addr.mk.injEq, and_true] at e
        obtain ⟨rfl, rfl⟩ := e
        have hbe := be_take_lt hL.lt (k := k) (j := 7) (by omega)
        have hsu := be_take_succ (l := l) (k := k) (by rw [hL.len]; exact hlt)
        obtain ⟨y, hy⟩ : ∃ y, y = l.getD k 0 := ⟨_, rfl⟩
        obtain ⟨t, ht⟩ : ∃ t, t = be (l.take k) := ⟨_, rfl⟩
        rw [← hy] at hck hlk hsu
        rw [← ht] at hbe hsu
        rw [← ht]
        have HS : Hid (be (l.take (k + 1)) = t * 256 + y) := hsu
        have hor := or_u64 t y hbe hlk
        clear hL hsu hy ht
        go_wp2
        go_round
        case rel => exact ⟨k + 1, by omega, by go_num, by rw [HS.out]; go_num⟩
        case measure => simp [intOf]; omega
      · obtain rfl : k = 4 := by omega
        have hfull : l.take 4 = l := List.take_of_length_le (by rw [hL.len]; exact Nat.le_refl _)
        rw [hfull]
        clear hL hfull
        by_cases hcs : c = 5
        · subst hcs
          go_wp2
          go_ret
          exact ⟨rfl, rfl⟩
        · go_wp2
          go_ret
          exact ⟨rfl, rfl⟩
  · simp only [Int.cast_ofNat_Int] at hzi
    go_enter Try.func26, Try.ntmps26
    go_wp2
    go_loop [7, 87] (fun t i => ∃ k : Nat, k ≤ 8 ∧ i = .int .i64 k ∧ t = .int .u64 ((be (l.take k) : Nat) : Int)) (fun _ i => 8 - (intOf i).toNat)
    case atStart => exact ⟨0, Nat.zero_le _, rfl, rfl⟩
    case round =>
      obtain ⟨k, hk, rfl, rfl⟩ := hrel
      by_cases hlt : k < 8
      · obtain ⟨b', off', e, _, hck, hlk⟩ := hL.at hlt
        simp only [Option.some.injEq, Addr.mk.injEq, and_true] at e
        obtain ⟨rfl, rfl⟩ := e
        have hbe := be_take_lt hL.lt (k := k) (j := 7) (by omega)
        have hsu := be_take_succ (l := l) (k := k) (by rw [hL.len]; exact hlt)
        obtain ⟨y, hy⟩ : ∃ y, y = l.getD k 0 := ⟨_, rfl⟩
        obtain ⟨t, ht⟩ : ∃ t, t = be (l.take k) := ⟨_, rfl⟩
        rw [← hy] at hck hlk hsu
        rw [← ht] at hbe hsu
        rw [← ht]
        have HS : Hid (be (l.take (k + 1)) = t * 256 + y) := hsu
        have hor := or_u64 t y hbe hlk
        clear hL hsu hy ht
        go_wp2
        go_round
        case rel => exact ⟨k + 1, by omega, by go_num, by rw [HS.out]; go_num⟩
        case measure => simp [intOf]; omega
      · obtain rfl : k = 8 := by omega
        have hfull : l.take 8 = l := List.take_of_length_le (by rw [hL.len]; exact Nat.le_refl _)
        rw [hfull]
        clear hL hfull
        by_cases hcs : c = 9
        · subst hcs
          go_wp2
          go_ret
          exact ⟨rfl, rfl⟩
        · go_wp2
          go_ret
          exact ⟨rfl, rfl⟩

end Go.Proofs.Qxb6600244a
