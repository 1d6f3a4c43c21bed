import Derived.Test.Qxb6600244aBase
import Derived.Test.Qxb6600244aPlain
namespace Go.Proofs.Qxb6600244a
open Go.RowKit

/-- The box of a reader. -/
def Rd (w : World) (g : Nat) (a : Option Addr) (n c : Nat) (fl : Bool) : Prop := w.heap[g]? = some (.cells #[.slice a n c, .bool fl] 50 (0, 0))

theorem Rd.cells {w : World} {g n c : Nat} {a : Option Addr} {fl : Bool} (h : Rd w g a n c fl) :
    w.cell? ⟨g, 0, none⟩ = some (.slice a n c) ∧ w.cell? ⟨g, 1, none⟩ = some (.bool fl) ∧ ∀ j, w.frozen? ⟨g, j, none⟩ = false := by
  unfold Rd at h
  exact ⟨by simp [World.cell?, h], by simp [World.cell?, h], fun j => by simp [World.frozen?, h]⟩

theorem Rd.setF {w : World} {g n c : Nat} {a : Option Addr} {fl : Bool} (h : Rd w g a n c fl) (f' : Bool) : Rd (w.setCell ⟨g, 1, none⟩ (.bool f')) g a n c f' := by
  unfold Rd at *
  rw [heap_setCell_same w g 1 _ 50 _ h]
  rfl
theorem Rd.setD {w : World} {g n c : Nat} {a : Option Addr} {fl : Bool} (h : Rd w g a n c fl) (a' : Option Addr) (n' c' : Nat) : Rd (w.setCell ⟨g, 0, none⟩ (.slice a' n' c')) g a' n' c' fl := by
  unfold Rd at *
  rw [heap_setCell_same w g 0 _ 50 _ h]
  rfl

theorem head_failed (g m n c : Nat) (a : Option Addr) (w : World) (hR : Rd w g a n c true) :
    Calls Try.prog 26 #[.pointer (some ⟨g, 0, none⟩), .int .u8 (m : Int)] w fun e w' => e = .returned (.int .u64 0) ∧ w' = w.setCell ⟨g, 1, none⟩ (.bool true) := by
  obtain ⟨h0, h1, hf⟩ := hR.cells
  go_enter Try.func26, Try.ntmps26
  go_wp2
  go_ret
  exact ⟨rfl, rfl⟩

theorem head_empty (g m c : Nat) (a : Option Addr) (w : World) (hR : Rd w g a 0 c false) :
    Calls Try.prog 26 #[.pointer (some ⟨g, 0, none⟩), .int .u8 (m : Int)] w fun e w' => e = .returned (.int .u64 0) ∧ w' = w.setCell ⟨g, 1, none⟩ (.bool true) := by
  obtain ⟨h0, h1, hf⟩ := hR.cells
  go_enter Try.func26, Try.ntmps26
  go_wp2
  go_ret
  exact ⟨rfl, rfl⟩

set_option maxHeartbeats 400000 in
theorem head_bad (g m b off n c z : Nat) (w : World) (hR : Rd w g (some ⟨b, off, none⟩) n c false) (hz : w.cell? ⟨b, off, none⟩ = some (.int .u8 (z : Int))) (hn : 0 < n) (hz' : z < 256)
    (hbad : ¬ z / 32 * 32 = m ∨ 27 < z % 32) :
    Calls Try.prog 26 #[.pointer (some ⟨g, 0, none⟩), .int .u8 (m : Int)] w fun e w' => e = .returned (.int .u64 0) ∧ w' = w.setCell ⟨g, 1, none⟩ (.bool true) := by
  obtain ⟨h0, h1, hf⟩ := hR.cells
  have hn' : (0 : Int) < n := by omega
  have hne : ((n : Int) == 0) = false := by simp; omega
  have ha := and224 z hz'
  by_cases hm : z / 32 * 32 = m
  · have h27 : (27 : Int) < (z : Int) % 32 := by omega
    rw [hm] at ha
    clear hbad
    go_enter Try.func26, Try.ntmps26
    go_wp2
    go_ret
    exact ⟨rfl, rfl⟩
  · have hne2 : ¬ bits BinOp.and IntKind.u8 (z : Int) 224 = (m : Int) := by rw [ha]; omega
    clear hbad ha
    go_enter Try.func26, Try.ntmps26
    go_wp2
    go_ret
    exact ⟨rfl, rfl⟩

set_option maxHeartbeats 400000 in
theorem head_small (g m b off n c z : Nat) (w : World) (hR : Rd w g (some ⟨b, off, none⟩) n c false) (hz : w.cell? ⟨b, off, none⟩ = some (.int .u8 (z : Int))) (hn : 0 < n) (hz' : z < 256)
    (hm : z / 32 * 32 = m) (hi : z % 32 < 24) :
    Calls Try.prog 26 #[.pointer (some ⟨g, 0, none⟩), .int .u8 (m : Int)] w fun e w' => e = .returned (.int .u64 ((z % 32 : Nat) : Int)) ∧
      w' = w.setCell ⟨g, 0, none⟩ (.slice (if c = 1 then some ⟨b, off, none⟩ else some ⟨b, off + 1, none⟩) (n - 1) (c - 1)) := by
  obtain ⟨h0, h1, hf⟩ := hR.cells
  have hn' : (0 : Int) < n := by omega
  have hne : ((n : Int) == 0) = false := by simp; omega
  have ha := and224 z hz'
  rw [hm] at ha
  have h27 : (z : Int) % 32 < 24 := by omega
  clear hm
  by_cases hc : c = 1
  · subst hc
    go_enter Try.func26, Try.ntmps26
    go_wp2
    go_ret
    exact ⟨rfl, rfl⟩
  · go_enter Try.func26, Try.ntmps26
    go_wp2
    go_ret
    exact ⟨rfl, rfl⟩

set_option maxHeartbeats 1000000 in
theorem head_short (g m b off n c z i s : Nat) (w : World) (hR : Rd w g (some ⟨b, off, none⟩) n c false) (hz : w.cell? ⟨b, off, none⟩ = some (.int .u8 (z : Int))) (hn : 0 < n) (hz' : z < 256)
    (hm : z / 32 * 32 = m) (hi : z % 32 = i) (his : (i = 24 ∧ s = 1) ∨ (i = 25 ∧ s = 2) ∨ (i = 26 ∧ s = 4) ∨ (i = 27 ∧ s = 8)) (hs : n < 1 + s) :
    Calls Try.prog 26 #[.pointer (some ⟨g, 0, none⟩), .int .u8 (m : Int)] w fun e w' => e = .returned (.int .u64 0) ∧ w' = w.setCell ⟨g, 1, none⟩ (.bool true) := by
  obtain ⟨h0, h1, hf⟩ := hR.cells
  have hn' : (0 : Int) < n := by omega
  have hne : ((n : Int) == 0) = false := by simp; omega
  have ha := and224 z hz'
  rw [hm] at ha
  clear hm
  have hzi : (z : Int) % 32 = (i : Int) := by omega
  rcases his with ⟨rfl, rfl⟩ | ⟨rfl, rfl⟩ | ⟨rfl, rfl⟩ | ⟨rfl, rfl⟩
  all_goals
    simp only [Int.cast_ofNat_Int] at hzi
    go_enter Try.func26, Try.ntmps26
    go_wp2
    go_ret
    exact ⟨rfl, rfl⟩

end Go.Proofs.Qxb6600244a
