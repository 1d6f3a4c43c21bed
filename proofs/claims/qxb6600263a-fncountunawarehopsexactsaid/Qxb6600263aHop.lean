import Derived.Test.Qxb6600263aMem
namespace Go.Proofs.Qxb6600263a
open Go.RowKit

set_option maxRecDepth 100000 in
theorem has0_any (f : Nat) (w : World) (hf : f < 4294967296) : Calls Try.prog 21 #[.int .u32 (f : Int), .int .i64 0] w fun e w' => e = .returned (.bool (decide (f / 8388608 % 2 = 1))) ∧ w' = w := by
  have e1 := and23 f hf
  by_cases h1 : f / 8388608 % 2 = 1
  · have g : decide (f / 8388608 % 2 = 1) = true := by simp [h1]
    rw [g]
    rw [h1] at e1
    have e1' : bits BinOp.and IntKind.u32 (f : Int) 8388608 = 8388608 := e1
    clear e1 h1 g
    go_enter Try.func21, Try.ntmps21
    go_wp2
    go_ret
    exact ⟨rfl, rfl⟩
  · have g : decide (f / 8388608 % 2 = 1) = false := by simp [h1]
    have h0 : f / 8388608 % 2 = 0 := by omega
    rw [g]
    rw [h0] at e1
    have e1' : bits BinOp.and IntKind.u32 (f : Int) 8388608 = 0 := e1
    clear e1 h1 g h0
    go_enter Try.func21, Try.ntmps21
    go_wp2
    go_ret
    exact ⟨rfl, rfl⟩
set_option maxRecDepth 100000 in
theorem has8_any (f : Nat) (w : World) (hf : f < 4294967296) : Calls Try.prog 21 #[.int .u32 (f : Int), .int .i64 8] w fun e w' => e = .returned (.bool (decide (f / 32768 % 2 = 1))) ∧ w' = w := by
  have e1 := and15 f hf
  by_cases h1 : f / 32768 % 2 = 1
  · have g : decide (f / 32768 % 2 = 1) = true := by simp [h1]
    rw [g]
    rw [h1] at e1
    have e1' : bits BinOp.and IntKind.u32 (f : Int) 32768 = 32768 := e1
    clear e1 h1 g
    go_enter Try.func21, Try.ntmps21
    go_wp2
    go_ret
    exact ⟨rfl, rfl⟩
  · have g : decide (f / 32768 % 2 = 1) = false := by simp [h1]
    have h0 : f / 32768 % 2 = 0 := by omega
    rw [g]
    rw [h0] at e1
    have e1' : bits BinOp.and IntKind.u32 (f : Int) 32768 = 0 := e1
    clear e1 h1 g h0
    go_enter Try.func21, Try.ntmps21
    go_wp2
    go_ret
    exact ⟨rfl, rfl⟩

theorem hl_lt {f h wd : Nat} (hh : h < 256) (hw : wd < 256) : hl f h wd < 256 := by unfold hl; split <;> (try split) <;> omega

theorem hopLim_any (g o f h wd : Nat) (w : World) (hf : f < 4294967296) (c0 : w.cell? ⟨g, o, none⟩ = some (.int .u32 (f : Int))) (c1 : w.cell? ⟨g, o + 1, none⟩ = some (.int .u8 (h : Int))) (c14 : w.cell? ⟨g, o + 14, none⟩ = some (.int .u8 (wd : Int))) :
    Calls Try.prog 20 #[.pointer (some ⟨g, o, none⟩)] w fun e w' => e = .returned (.tuple #[.int .u8 ((hl f h wd : Nat) : Int), .bool (hasHl f)]) ∧ w' = w := by
  have s0 := hid (has0_any f w hf)
  have s8 := hid (has8_any f w hf)
  by_cases h1 : f / 8388608 % 2 = 1
  · have g1 : hl f h wd = h := by unfold hl; rw [if_pos h1]
    have g2 : hasHl f = true := by unfold hasHl; rw [if_pos h1]
    have g3 : decide (f / 8388608 % 2 = 1) = true := by simp [h1]
    rw [g1, g2]
    rw [g3] at s0
    clear h1 g1 g2 g3
    go_enter Try.func20, Try.ntmps20
    go_wp2_with fail
    refine (Hid.out s0).mono ?_
    rintro e w1 ⟨he, hw⟩
    obtain rfl := hw.symm
    subst he
    clear s0 s8
    go_wp2
    go_ret2
    exact ⟨rfl, rfl⟩
  · have g3 : decide (f / 8388608 % 2 = 1) = false := by simp [h1]
    rw [g3] at s0
    by_cases h2 : f / 32768 % 2 = 1
    · have g1 : hl f h wd = wd := by unfold hl; rw [if_neg h1, if_pos h2]
      have g2 : hasHl f = true := by unfold hasHl; rw [if_neg h1, if_pos h2]
      have g4 : decide (f / 32768 % 2 = 1) = true := by simp [h2]
      rw [g1, g2]
      rw [g4] at s8
      clear h1 h2 g1 g2 g3 g4
      go_enter Try.func20, Try.ntmps20
      go_wp2_with fail
      refine (Hid.out s0).mono ?_
      rintro e w1 ⟨he, hw⟩
      obtain rfl := hw.symm
      subst he
      clear s0
      go_wp2_with fail
      refine (Hid.out s8).mono ?_
      rintro e w1 ⟨he, hw⟩
      obtain rfl := hw.symm
      subst he
      clear s8
      go_wp2
      go_ret2
      exact ⟨rfl, rfl⟩
    · have g1 : hl f h wd = 0 := by unfold hl; rw [if_neg h1, if_neg h2]
      have g2 : hasHl f = false := by unfold hasHl; rw [if_neg h1, if_neg h2]
      have g4 : decide (f / 32768 % 2 = 1) = false := by simp [h2]
      rw [g1, g2]
      rw [g4] at s8
      clear h1 h2 g1 g2 g3 g4
      go_enter Try.func20, Try.ntmps20
      go_wp2_with fail
      refine (Hid.out s0).mono ?_
      rintro e w1 ⟨he, hw⟩
      obtain rfl := hw.symm
      subst he
      clear s0
      go_wp2_with fail
      refine (Hid.out s8).mono ?_
      rintro e w1 ⟨he, hw⟩
      obtain rfl := hw.symm
      subst he
      clear s8
      go_wp2
      go_ret2
      exact ⟨rfl, rfl⟩

end Go.Proofs.Qxb6600263a
