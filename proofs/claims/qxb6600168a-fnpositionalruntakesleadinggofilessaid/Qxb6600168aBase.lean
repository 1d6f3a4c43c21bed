import Derived.Test.Qxb6600168aRows
import Derived.WalkKit
import Derived.WalkSpells
import Derived.WalkLawsBesides
import Derived.Below
import Derived.Outline
namespace Go.Proofs.Qxb6600168a
open Go.RowKit

/-- A slice's address and length lead to the strings 'ss', below block B. (Of an empty slice the address is whatever.) -/
def SV (B : Nat) (w : World) (a : Option Addr) (n : Nat) (ss : List ByteArray) : Prop :=
  ss.length = n ∧ ∀ i, i < n → ∃ b off, a = some ⟨b, off, none⟩ ∧ b < B ∧ w.cell? ⟨b, off + i, none⟩ = some (.string (ss.getD i ByteArray.empty))

theorem SV.up {B B' : Nat} {w : World} {a : Option Addr} {n : Nat} {ss : List ByteArray} (h : SV B w a n ss) (hB : B ≤ B') : SV B' w a n ss :=
  ⟨h.1, fun i hi => by obtain ⟨b, off, e, hb, hc⟩ := h.2 i hi; exact ⟨b, off, e, by omega, hc⟩⟩

theorem SV.mono {B : Nat} {w w' : World} {a : Option Addr} {n : Nat} {ss : List ByteArray} (h : SV B w a n ss) (hb : Below B w w') : SV B w' a n ss :=
  ⟨h.1, fun i hi => by obtain ⟨b, off, e, hB, hc⟩ := h.2 i hi; exact ⟨b, off, e, hB, (hb.cell (p := ⟨b, off + i, none⟩) hB).trans hc⟩⟩

theorem SV.nil (B : Nat) (w : World) (a : Option Addr) : SV B w a 0 [] := ⟨rfl, fun i hi => by omega⟩

theorem SV.at {B : Nat} {w : World} {a : Option Addr} {n : Nat} {ss : List ByteArray} (h : SV B w a n ss) {i : Nat} (hi : i < n) : ∃ b off s, a = some ⟨b, off, none⟩ ∧ w.cell? ⟨b, off + i, none⟩ = some (.string s) := by
  obtain ⟨b, off, e, _, hc⟩ := h.2 i hi
  exact ⟨b, off, _, e, hc⟩

/-! ### addStrs: some number; nothing turns -/
set_option maxHeartbeats 400000 in
theorem addStrs_any (t : Int) (a : Option Addr) (n c : Nat) (ss : List ByteArray) (w : World) (B : Nat) (h : SV B w a n ss) (hn : n ≤ maxLen) :
    Calls Try.prog 19 #[.int .i64 t, .slice a n c] w fun e w' => (∃ r : Int, e = .returned (.int .i64 r)) ∧ w' = w := by
  unfold maxLen at hn
  go_enter Try.func19, Try.ntmps19
  go_wp2
  go_loop [0, 5] (fun t i => ∃ (k : Nat) (r : Int), k ≤ n ∧ i = .int .i64 k ∧ t = .int .i64 r) (fun _ i => n - (intOf i).toNat)
  case atStart => exact ⟨0, t, Nat.zero_le _, rfl, rfl⟩
  case round =>
    obtain ⟨k, r, hk, rfl, rfl⟩ := hrel
    by_cases hlt : k < n
    · obtain ⟨b, off, s, rfl, hc⟩ := h.at hlt
      clear h
      go_wp2
      all_goals first
        | (go_ret; exact ⟨⟨_, rfl⟩, rfl⟩)
        | (go_round
           case rel => exact ⟨k + 1, _, by omega, by go_num, rfl⟩
           case measure => simp [intOf]; omega)
    · clear h
      go_wp2
      go_ret
      exact ⟨⟨_, rfl⟩, rfl⟩

end Go.Proofs.Qxb6600168a
