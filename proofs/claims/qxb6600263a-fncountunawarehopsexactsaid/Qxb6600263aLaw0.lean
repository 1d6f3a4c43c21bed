import Derived.Test.Qxb6600263aCount
namespace Go.Proofs.Qxb6600263a
open Go.RowKit

theorem zz7_true (a0 a1 a2 : Option Addr) (n0 n1 n2 c0 c1 c2 : Nat) (w : World) (h : n0 + n1 + n2 ≤ 1048576) :
    Calls Try.prog 7 #[.slice a0 n0 c0, .slice a1 n1 c1, .slice a2 n2 c2] w fun e w' => e = .returned (.bool true) ∧ w' = w := by
  have h1 : ¬ (1048576 : Int) < (n0 : Int) := by omega
  have h2 : ¬ (1048576 : Int) < (n1 : Int) := by omega
  have h3 : ¬ (1048576 : Int) < (n0 : Int) + (n1 : Int) := by omega
  have h4 : ¬ (1048576 : Int) < (n2 : Int) := by omega
  have h5 : ¬ (1048576 : Int) < (n0 : Int) + (n1 : Int) + (n2 : Int) := by omega
  go_enter Try.func7, Try.ntmps7
  go_wp2
  go_ret
  exact ⟨rfl, rfl⟩
theorem zz7_false (a0 a1 a2 : Option Addr) (n0 n1 n2 c0 c1 c2 : Nat) (w : World) (h : ¬ n0 + n1 + n2 ≤ 1048576) :
    Calls Try.prog 7 #[.slice a0 n0 c0, .slice a1 n1 c1, .slice a2 n2 c2] w fun e w' => e = .returned (.bool false) ∧ w' = w := by
  by_cases h1 : (1048576 : Int) < (n0 : Int)
  · go_enter Try.func7, Try.ntmps7
    go_wp2
    go_ret
    exact ⟨rfl, rfl⟩
  by_cases h2 : (1048576 : Int) < (n1 : Int)
  · go_enter Try.func7, Try.ntmps7
    go_wp2
    go_ret
    exact ⟨rfl, rfl⟩
  by_cases h3 : (1048576 : Int) < (n0 : Int) + (n1 : Int)
  · go_enter Try.func7, Try.ntmps7
    go_wp2
    go_ret
    exact ⟨rfl, rfl⟩
  by_cases h4 : (1048576 : Int) < (n2 : Int)
  · go_enter Try.func7, Try.ntmps7
    go_wp2
    go_ret
    exact ⟨rfl, rfl⟩
  have h5 : (1048576 : Int) < (n0 : Int) + (n1 : Int) + (n2 : Int) := by omega
  go_enter Try.func7, Try.ntmps7
  go_wp2
  go_ret
  exact ⟨rfl, rfl⟩

/-- What lies in memory when the law begins to look: the rows of n numbers, the Trace and its Nodes. -/
structure Env (w : World) (a0 a1 a2 : Option Addr) (n : Nat) (F H Wd : Nat → Nat) : Prop where
  z0 : ∀ i, i < n → ∃ b off, a0 = some ⟨b, off, none⟩ ∧ w.cell? ⟨b, off + i, none⟩ = some (.int .u32 ((F i : Nat) : Int))
  z1 : ∀ i, i < n → ∃ b off, a1 = some ⟨b, off, none⟩ ∧ w.cell? ⟨b, off + i, none⟩ = some (.int .u8 ((H i : Nat) : Int))
  z2 : ∀ i, i < n → ∃ b off, a2 = some ⟨b, off, none⟩ ∧ w.cell? ⟨b, off + i, none⟩ = some (.int .u8 ((Wd i : Nat) : Int))
theorem Env.drewN {w : World} {a0 a1 a2 : Option Addr} {n : Nat} {F H Wd : Nat → Nat} (h : Env w a0 a1 a2 n F H Wd) (q : Nat) : Env (w.drewN q) a0 a1 a2 n F H Wd := ⟨h.z0, h.z1, h.z2⟩

theorem pre_lt {fs : List Nat} {n B : Nat} (hB : 0 < B) (h : ∀ i, fs.getD i 0 < B) (i : Nat) : pre fs n i < B := by
  unfold pre; split
  · exact h i
  · exact hB
theorem env_row {κ : IntKind} {B : Nat} {w w' : World} {a : Option Addr} {n0 n : Nat} {fs : List Nat} (h : IV κ B w a n0 fs) (hb : Below B w w') (hn : n ≤ n0) :
    ∀ i, i < n → ∃ b off, a = some ⟨b, off, none⟩ ∧ w'.cell? ⟨b, off + i, none⟩ = some (.int κ ((pre fs n i : Nat) : Int)) := by
  intro i hi
  obtain ⟨b, off, e, _, hc⟩ := (h.mono hb).cell i (by omega)
  refine ⟨b, off, e, ?_⟩
  rw [hc]
  unfold pre
  rw [if_pos hi]

end Go.Proofs.Qxb6600263a
