import Derived.Test.Qxb6600263aBuild
namespace Go.Proofs.Qxb6600263a

/-- The hops between two entries that did no IOAM. -/
def gap (p c : Nat) : Nat := if c + 2 ≤ p then p - c - 1 else 0
/-- The gaps in front of the entries 1 .. k. -/
def Uk (P : Nat → Nat) (k : Nat) : Nat → Nat := fun j => if 1 ≤ j ∧ j ≤ k then gap (P (j - 1)) (P j) else 0
/-- Their sum. -/
def tot (P : Nat → Nat) : Nat → Nat
  | 0 => 0
  | k + 1 => tot P k + gap (P k) (P (k + 1))
/-- What the other steps gave up. -/
def defi (P : Nat → Nat) : Nat → Nat
  | 0 => 0
  | k + 1 => defi P k + (if P (k + 1) + 2 ≤ P k then 0 else P (k + 1) + 1 - P k)

theorem Uk_zero (P : Nat → Nat) : Uk P 0 = fun _ => 0 := by funext j; unfold Uk; rw [if_neg (by omega)]
theorem Uk_succ (P : Nat → Nat) (k : Nat) : upd (Uk P k) (k + 1) (gap (P k) (P (k + 1))) = Uk P (k + 1) := by
  funext j
  unfold upd Uk
  by_cases h : j = k + 1
  · subst h
    rw [if_pos rfl, if_pos (by omega)]
    rfl
  · rw [if_neg h]
    by_cases h2 : 1 ≤ j ∧ j ≤ k
    · rw [if_pos h2, if_pos (by omega)]
    · rw [if_neg h2, if_neg (by omega)]
theorem Uk_same (P : Nat → Nat) (k : Nat) (h : gap (P k) (P (k + 1)) = 0) : Uk P k = Uk P (k + 1) := by
  rw [← Uk_succ, h]
  funext j
  unfold upd
  by_cases hj : j = k + 1
  · rw [if_pos hj, hj]; unfold Uk; rw [if_neg (by omega)]
  · rw [if_neg hj]
theorem Uk_at {P : Nat → Nat} {m j : Nat} (h : j + 1 ≤ m) : Uk P m (j + 1) = gap (P j) (P (j + 1)) := by unfold Uk; rw [if_pos (by omega)]; rfl
theorem gap_le {p c : Nat} (h : p < 256) : gap p c ≤ 255 := by unfold gap; split <;> omega
theorem tot_le {P : Nat → Nat} (h : ∀ i, P i < 256) (k : Nat) : tot P k ≤ 255 * k := by
  induction k with
  | zero => simp [tot]
  | succ k ih => have := @gap_le (P k) (P (k + 1)) (h k); unfold tot; omega
theorem defi_le {P : Nat → Nat} (h : ∀ i, P i < 256) (k : Nat) : defi P k ≤ 256 * k := by
  induction k with
  | zero => simp [defi]
  | succ k ih => have := h (k + 1); unfold defi; split <;> omega
/-- The sum telescopes. -/
theorem tot_eq (P : Nat → Nat) (k : Nat) : (tot P k : Int) = (P 0 : Int) - (P k : Int) - (k : Int) + (defi P k : Int) := by
  induction k with
  | zero => simp [tot, defi]
  | succ k ih =>
    unfold tot defi gap
    split <;> omega

end Go.Proofs.Qxb6600263a
