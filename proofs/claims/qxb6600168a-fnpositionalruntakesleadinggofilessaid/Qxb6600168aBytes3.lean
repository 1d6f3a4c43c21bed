import Derived.Test.Qxb6600168aBytes
namespace Go.Proofs.Qxb6600168a
open Go.RowKit

set_option maxHeartbeats 4000000 in
theorem zzBytes25 (v : ByteArray) (a1 a2 a3 : Option Addr) (n1 c1 n2 c2 n3 c3 : Nat) (s1 s2 s3 : List ByteArray) (dd : Bool) (w : World) (B : Nat) (h1 : SV B w a1 n1 s1) (h2 : SV B w a2 n2 s2) (h3 : SV B w a3 n3 s3)
    (hv : v.size ≤ maxLen) (hn1 : n1 ≤ maxLen) (hn2 : n2 ≤ maxLen) (hn3 : n3 ≤ maxLen) :
    Calls Try.prog 25 #[.string v, .slice a1 n1 c1, .slice a2 n2 c2, .slice a3 n3 c3, .bool dd] w fun e w' => Told [n1, n2, n3] e ∧ w' = w := by
  unfold maxLen at hv hn1 hn2 hn3
  by_cases l0 : v.size ≤ 1048576
  · by_cases l1 : n1 ≤ 1048576
    · by_cases l1' : (v.size : Int) + n1 ≤ 1048576
      · go_enter Try.func25, Try.ntmps25
        go_wp2
        go_loop [11, 12] (fun t i => ∃ (k : Nat) (r : Int), k ≤ n1 ∧ i = .int .i64 k ∧ t = .int .i64 r ∧ 0 ≤ r ∧ r ≤ 1048576) (fun _ i => n1 - (intOf i).toNat)
        case atStart => exact ⟨0, _, Nat.zero_le _, rfl, rfl, by omega, by omega⟩
        case round =>
          obtain ⟨k, r, hk, rfl, rfl, hr0, hr1⟩ := hrel
          by_cases hlt : k < n1
          · obtain ⟨b, off, s, rfl, hc⟩ := h1.at hlt
            clear h1 h2 h3
            go_wp2
            all_goals first
              | (go_ret; exact ⟨told_no, rfl⟩)
              | (go_round
                 case rel => exact ⟨k + 1, _, by omega, by go_num, rfl, by omega, by omega⟩
                 case measure => simp [intOf]; omega)
          · clear h1
            by_cases l2 : n2 ≤ 1048576
            · by_cases l2' : r + n2 ≤ 1048576
              · go_wp2
                go_loop [11, 13] (fun t i => ∃ (k : Nat) (r : Int), k ≤ n2 ∧ i = .int .i64 k ∧ t = .int .i64 r ∧ 0 ≤ r ∧ r ≤ 1048576) (fun _ i => n2 - (intOf i).toNat)
                case atStart => exact ⟨0, _, Nat.zero_le _, rfl, rfl, by omega, by omega⟩
                case round =>
                  obtain ⟨k, r, hk, rfl, rfl, hr0, hr1⟩ := hrel
                  by_cases hlt : k < n2
                  · obtain ⟨b, off, s, rfl, hc⟩ := h2.at hlt
                    clear h2 h3
                    go_wp2
                    all_goals first
                      | (go_ret; exact ⟨told_no, rfl⟩)
                      | (go_round
                         case rel => exact ⟨k + 1, _, by omega, by go_num, rfl, by omega, by omega⟩
                         case measure => simp [intOf]; omega)
                  · clear h2
                    by_cases l3 : n3 ≤ 1048576
                    · by_cases l3' : r + n3 ≤ 1048576
                      · go_wp2
                        go_loop [11, 14] (fun t i => ∃ (k : Nat) (r : Int), k ≤ n3 ∧ i = .int .i64 k ∧ t = .int .i64 r ∧ 0 ≤ r ∧ r ≤ 1048576) (fun _ i => n3 - (intOf i).toNat)
                        case atStart => exact ⟨0, _, Nat.zero_le _, rfl, rfl, by omega, by omega⟩
                        case round =>
                          obtain ⟨k, r, hk, rfl, rfl, hr0, hr1⟩ := hrel
                          by_cases hlt : k < n3
                          · obtain ⟨b, off, s, rfl, hc⟩ := h3.at hlt
                            clear h3
                            go_wp2
                            all_goals first
                              | (go_ret; exact ⟨told_no, rfl⟩)
                              | (go_round
                                 case rel => exact ⟨k + 1, _, by omega, by go_num, rfl, by omega, by omega⟩
                                 case measure => simp [intOf]; omega)
                          · clear h3
                            go_wp2
                            go_ret
                            exact ⟨told_yes (by intro n hn; simp at hn; omega), rfl⟩
                      · clear h3
                        go_wp2
                        go_ret
                        exact ⟨told_no, rfl⟩
                    · clear h3
                      go_wp2
                      go_ret
                      exact ⟨told_no, rfl⟩
              · clear h2 h3
                go_wp2
                go_ret
                exact ⟨told_no, rfl⟩
            · clear h2 h3
              go_wp2
              go_ret
              exact ⟨told_no, rfl⟩
      · clear h1 h2 h3
        go_enter Try.func25, Try.ntmps25
        go_wp2
        go_ret
        exact ⟨told_no, rfl⟩
    · clear h1 h2 h3
      go_enter Try.func25, Try.ntmps25
      go_wp2
      go_ret
      exact ⟨told_no, rfl⟩
  · clear h1 h2 h3
    go_enter Try.func25, Try.ntmps25
    go_wp2
    go_ret
    exact ⟨told_no, rfl⟩

end Go.Proofs.Qxb6600168a
