import Derived.Test.Qxb6600263aHop
namespace Go.Proofs.Qxb6600263a
open Go.RowKit


set_option maxRecDepth 100000 in
set_option maxHeartbeats 2000000 in
theorem restZero_any (g o f h wd u : Nat) (w : World) (c : ∀ r, r < 40 → w.cell? ⟨g, o + r, none⟩ = some (nodeC f h wd u r)) :
    Calls Try.prog 13 #[.pointer (some ⟨g, o, none⟩)] w fun e w' => e = .returned (.bool true) ∧ w' = w := by
  have c2 : w.cell? ⟨g, o + 2, none⟩ = some (.int .u32 0) := c 2 (by omega)
  have c3 : w.cell? ⟨g, o + 3, none⟩ = some (.int .u16 0) := c 3 (by omega)
  have c4 : w.cell? ⟨g, o + 4, none⟩ = some (.int .u16 0) := c 4 (by omega)
  have c5 : w.cell? ⟨g, o + 5, none⟩ = some (.int .u32 0) := c 5 (by omega)
  have c6 : w.cell? ⟨g, o + 6, none⟩ = some (.int .u32 0) := c 6 (by omega)
  have c7 : w.cell? ⟨g, o + 7, none⟩ = some (.int .u32 0) := c 7 (by omega)
  have c12 : w.cell? ⟨g, o + 12, none⟩ = some (.int .u32 0) := c 12 (by omega)
  have c13 : w.cell? ⟨g, o + 13, none⟩ = some (.int .u32 0) := c 13 (by omega)
  have c15 : w.cell? ⟨g, o + 15, none⟩ = some (.int .u64 0) := c 15 (by omega)
  have c16 : w.cell? ⟨g, o + 16, none⟩ = some (.int .u32 0) := c 16 (by omega)
  have c17 : w.cell? ⟨g, o + 17, none⟩ = some (.int .u32 0) := c 17 (by omega)
  have c26 : w.cell? ⟨g, o + 26, none⟩ = some (.int .u32 0) := c 26 (by omega)
  have c37 : w.cell? ⟨g, o + 37, none⟩ = some (.int .u32 0) := c 37 (by omega)
  have c38 : w.cell? ⟨g, o + 38, none⟩ = some (.slice none 0 0) := c 38 (by omega)
  have A4 : Hid (∀ k, k < 4 → w.cell? ⟨g, o + 8 + k, none⟩ = some (.int .u8 0)) := hid (fun k hk => by
    have := c (8 + k) (by omega)
    rw [← Nat.add_assoc] at this
    rw [this]
    obtain rfl | rfl | rfl | rfl : k = 0 ∨ k = 1 ∨ k = 2 ∨ k = 3 := by omega
    all_goals rfl)
  have A8 : Hid (∀ k, k < 8 → w.cell? ⟨g, o + 18 + k, none⟩ = some (.int .u8 0)) := hid (fun k hk => by
    have := c (18 + k) (by omega)
    rw [← Nat.add_assoc] at this
    rw [this]
    obtain rfl | rfl | rfl | rfl | rfl | rfl | rfl | rfl : k = 0 ∨ k = 1 ∨ k = 2 ∨ k = 3 ∨ k = 4 ∨ k = 5 ∨ k = 6 ∨ k = 7 := by omega
    all_goals rfl)
  have A10 : Hid (∀ k, k < 10 → w.cell? ⟨g, o + 27 + k, none⟩ = some (.int .u32 0)) := hid (fun k hk => by
    have := c (27 + k) (by omega)
    rw [← Nat.add_assoc] at this
    rw [this]
    obtain rfl | rfl | rfl | rfl | rfl | rfl | rfl | rfl | rfl | rfl : k = 0 ∨ k = 1 ∨ k = 2 ∨ k = 3 ∨ k = 4 ∨ k = 5 ∨ k = 6 ∨ k = 7 ∨ k = 8 ∨ k = 9 := by omega
    all_goals rfl)
  have hq := Lib.run_eql_slice_nil (P := Try.prog) w 23 5 none 0 0 0 0 Try.underlying23
  clear c
  go_enter Try.func13, Try.ntmps13
  go_wp2
  go_loop [3] (fun i => ∃ k : Nat, k ≤ 4 ∧ i = .int .i64 k) (fun i => 4 - (intOf i).toNat)
  case atStart => exact ⟨0, by omega, rfl⟩
  case round =>
    obtain ⟨k, hk, rfl⟩ := hrel
    by_cases hlt : k < 4
    · have hc := A4.out k hlt
      go_wp2
      go_round
      case rel => exact ⟨k + 1, by omega, by go_num⟩
      case measure => simp [intOf]; omega
    · obtain rfl : k = 4 := by omega
      clear hk hlt A4
      go_wp2
      go_loop [4] (fun i => ∃ k : Nat, k ≤ 8 ∧ i = .int .i64 k) (fun i => 8 - (intOf i).toNat)
      case atStart => exact ⟨0, by omega, rfl⟩
      case round =>
        obtain ⟨k, hk, rfl⟩ := hrel
        by_cases hlt : k < 8
        · have hc := A8.out k hlt
          go_wp2
          go_round
          case rel => exact ⟨k + 1, by omega, by go_num⟩
          case measure => simp [intOf]; omega
        · obtain rfl : k = 8 := by omega
          clear hk hlt A8
          go_wp2
          go_loop [5] (fun i => ∃ k : Nat, k ≤ 10 ∧ i = .int .i64 k) (fun i => 10 - (intOf i).toNat)
          case atStart => exact ⟨0, by omega, rfl⟩
          case round =>
            obtain ⟨k, hk, rfl⟩ := hrel
            by_cases hlt : k < 10
            · have hc := A10.out k hlt
              go_wp2
              go_round
              case rel => exact ⟨k + 1, by omega, by go_num⟩
              case measure => simp [intOf]; omega
            · obtain rfl : k = 10 := by omega
              clear hk hlt A10
              go_wp2
              go_ret
              exact ⟨rfl, rfl⟩

end Go.Proofs.Qxb6600263a
