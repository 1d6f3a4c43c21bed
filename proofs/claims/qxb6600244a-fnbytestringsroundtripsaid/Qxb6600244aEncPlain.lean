/- The plain side of writing a head: no Go in sight. -/
import Derived.Test.Qxb6600244aPlain
namespace Go.Proofs.Qxb6600244a

/-- The bytes that follow a head of form f. -/
def formSz (f : Nat) : Nat := if f = 0 then 0 else if f = 1 then 1 else if f = 2 then 2 else if f = 3 then 4 else 8
/-- The additional information of a head of form f with argument n. -/
def infoOf (n f : Nat) : Nat := if f = 0 then n else 23 + f
/-- n's lowest s bytes, the highest first. -/
def beB : Nat → Nat → List Nat
  | 0, _ => []
  | s + 1, n => beB s (n / 256) ++ [n % 256]
/-- The head of major type m with argument n in form f. -/
def encH (m n f : Nat) : List Nat := (m + infoOf n f) :: beB (formSz f) n

theorem formSz_le (f : Nat) : formSz f ≤ 8 := by unfold formSz; repeat' split
                                                 all_goals omega
theorem beB_length : ∀ (s n : Nat), (beB s n).length = s
  | 0, _ => rfl
  | s + 1, n => by simp [beB, beB_length s]
theorem beB_lt : ∀ (s n : Nat), ∀ z ∈ beB s n, z < 256
  | 0, _, z, hz => by simp [beB] at hz
  | s + 1, n, z, hz => by
    simp only [beB, List.mem_append, List.mem_singleton] at hz
    rcases hz with h | h
    · exact beB_lt s _ z h
    · omega
theorem be_beB : ∀ (s n : Nat), n < 256 ^ s → be (beB s n) = n
  | 0, n, h => by simp at h; subst h; rfl
  | s + 1, n, h => by
    rw [beB, be_snoc, be_beB s (n / 256) (by rw [Nat.pow_succ] at h; omega)]
    omega
/-- One byte more of the lowest ones, from the back. -/
theorem beB_step (N : Nat) : ∀ j, beB (j + 1) N = (N / 256 ^ j % 256) :: beB j N
  | 0 => by simp [beB]
  | j + 1 => by
    rw [beB, beB_back N (j + 1)]
where
  beB_back (N : Nat) : ∀ j, beB j (N / 256) ++ [N % 256] = (N / 256 ^ j % 256) :: beB j N
  | 0 => by simp [beB]
  | j + 1 => by
    have h := beB_back (N / 256) j
    rw [beB, h, List.cons_append, beB, Nat.div_div_eq_div_mul, Nat.pow_succ, Nat.mul_comm 256]

end Go.Proofs.Qxb6600244a
