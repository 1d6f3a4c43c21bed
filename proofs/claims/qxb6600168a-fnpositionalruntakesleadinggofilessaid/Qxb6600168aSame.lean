import Derived.Test.Qxb6600168aBase
import Derived.Deep.QuietTactic
import Derived.BigQuiet
namespace Go.Proofs.Qxb6600168a
open Go.RowKit

theorem SV.two {B B' : Nat} {w : World} {a a' : Option Addr} {n : Nat} {ss : List ByteArray} (h : SV B w a n ss) (h' : SV B' w a' n ss) {i : Nat} (hi : i < n) :
    ∃ b off b' off' s, a = some ⟨b, off, none⟩ ∧ a' = some ⟨b', off', none⟩ ∧ w.cell? ⟨b, off + i, none⟩ = some (.string s) ∧ w.cell? ⟨b', off' + i, none⟩ = some (.string s) := by
  obtain ⟨b, off, e, _, hc⟩ := h.2 i hi
  obtain ⟨b', off', e', _, hc'⟩ := h'.2 i hi
  exact ⟨b, off, b', off', _, e, e', hc, hc'⟩

/-! ### sameStrs: two rows of the same strings: true; nothing turns but the draws -/
set_option maxHeartbeats 400000 in
theorem sameStrs_same (a a' : Option Addr) (n c c' : Nat) (ss : List ByteArray) (w : World) (B B' : Nat) (h : SV B w a n ss) (h' : SV B' w a' n ss) (hn : n ≤ maxLen) :
    Calls Try.prog 27 #[.slice a n c, .slice a' n c'] w fun e w' => e = .returned (.bool true) ∧ ∃ q, w' = w.drewN q := by
  unfold maxLen at hn
  go_enter Try.func27, Try.ntmps27
  go_wp2
  go_loopw [5] (fun i wr => ∃ (k q : Nat), k ≤ n ∧ i = .int .i64 k ∧ wr = w.drewN q) (fun i _ => n - (intOf i).toNat)
  case atStart => exact ⟨0, 0, Nat.zero_le _, rfl, rfl⟩
  case round =>
    obtain ⟨k, q, hk, rfl, rfl⟩ := hrel
    by_cases hlt : k < n
    · obtain ⟨b, off, b', off', s, rfl, rfl, hc, hc'⟩ := h.two h' hlt
      clear h h'
      go_wp2
      go_quiet (fail)
      go_wp2
      go_roundw
      case rel => exact ⟨k + 1, _, by omega, by go_num, rfl⟩
      case measure => simp [intOf]; omega
    · clear h h'
      go_wp2
      go_ret
      exact ⟨rfl, _, rfl⟩

end Go.Proofs.Qxb6600168a
