import Derived.Test.Qxb6600168aBase
namespace Go.Proofs.Qxb6600168a
open Go.RowKit

/-- What zzBytes tells: no, or the lists are short. -/
def Told (l : List Nat) (e : Ending) : Prop := e = .returned (.bool false) ∨ (e = .returned (.bool true) ∧ ∀ n ∈ l, n ≤ 1048576)

theorem told_no {l : List Nat} : Told l (.returned (.bool false)) := .inl rfl
theorem told_yes {l : List Nat} (h : ∀ n ∈ l, n ≤ 1048576) : Told l (.returned (.bool true)) := .inr ⟨rfl, h⟩

set_option maxHeartbeats 2000000 in
theorem zzBytes28 (a1 a2 : Option Addr) (n1 c1 n2 c2 : Nat) (s1 s2 : List ByteArray) (dd : Bool) (w : World) (B : Nat) (h1 : SV B w a1 n1 s1) (h2 : SV B w a2 n2 s2) (hn1 : n1 ≤ maxLen) (hn2 : n2 ≤ maxLen) :
    Calls Try.prog 28 #[.slice a1 n1 c1, .slice a2 n2 c2, .bool dd] w fun e w' => Told [n1, n2] e ∧ w' = w := by
  unfold maxLen at hn1 hn2
  by_cases l1 : n1 ≤ 1048576
  · go_enter Try.func28, Try.ntmps28
    go_wp2
    go_loop [7, 8] (fun t i => ∃ (k : Nat) (r : Int), k ≤ n1 ∧ i = .int .i64 k ∧ t = .int .i64 r ∧ 0 ≤ r ∧ r ≤ 1048576) (fun _ i => n1 - (intOf i).toNat)
    case atStart => exact ⟨0, _, Nat.zero_le _, rfl, rfl, by omega, by omega⟩
    case round =>
      obtain ⟨k, r, hk, rfl, rfl, hr0, hr1⟩ := hrel
      by_cases hlt : k < n1
      · obtain ⟨b, off, s, rfl, hc⟩ := h1.at hlt
        clear h1 h2
        go_wp2
        all_goals first
          | (go_ret; exact ⟨told_no, rfl⟩)
          | (go_round
             case rel => exact ⟨k + 1, _, by omega, by go_num, rfl, by omega, by omega⟩
             case measure => simp [intOf]; omega)
      · clear h1
        by_cases l2 : n2 ≤ 1048576
        · by_cases l3 : r + n2 ≤ 1048576
          · go_wp2
            go_loop [7, 9] (fun t i => ∃ (k : Nat) (r : Int), k ≤ n2 ∧ i = .int .i64 k ∧ t = .int .i64 r ∧ 0 ≤ r ∧ r ≤ 1048576) (fun _ i => n2 - (intOf i).toNat)
            case atStart => exact ⟨0, _, Nat.zero_le _, rfl, rfl, by omega, by omega⟩
            case round =>
              obtain ⟨k, r, hk, rfl, rfl, hr0, hr1⟩ := hrel
              by_cases hlt : k < n2
              · obtain ⟨b, off, s, rfl, hc⟩ := h2.at hlt
                clear h2
                go_wp2
                all_goals first
                  | (go_ret; exact ⟨told_no, rfl⟩)
                  | (go_round
                     case rel => exact ⟨k + 1, _, by omega, by go_num, rfl, by omega, by omega⟩
                     case measure => simp [intOf]; omega)
              · clear h2
                go_wp2
                go_ret
                exact ⟨told_yes (by intro n hn; simp at hn; omega), rfl⟩
          · clear h2
            go_wp2
            go_ret
            exact ⟨told_no, rfl⟩
        · clear h2
          go_wp2
          go_ret
          exact ⟨told_no, rfl⟩
  · clear h1 h2
    go_enter Try.func28, Try.ntmps28
    go_wp2
    go_ret
    exact ⟨told_no, rfl⟩

end Go.Proofs.Qxb6600168a
