/- The plain side of the round trip of an array of byte strings: no Go in sight. -/
import Derived.Test.Qxb6600244aHeadLaw
import Derived.Test.Qxb6600244aBsPlain
namespace Go.Proofs.Qxb6600244a

/-- The shortest form. -/
def shortF (n : Nat) : Nat := if n < 24 then 0 else if n < 256 then 1 else if n < 65536 then 2 else if n < 4294967296 then 3 else 4
/-- The form that the law takes. -/
def formW (wide : Bool) (n : Nat) : Nat := if wide = true then 4 else shortF n
/-- A byte string, encoded. -/
def encI (wide : Bool) (it : List Nat) : List Nat := encH 64 it.length (formW wide it.length) ++ it
/-- Byte strings, encoded one behind another. -/
def encL (wide : Bool) : List (List Nat) → List Nat
  | [] => []
  | x :: r => encI wide x ++ encL wide r
/-- The whole array. -/
def encA (wide : Bool) (L : List (List Nat)) : List Nat := encH 128 L.length (formW wide L.length) ++ encL wide L

theorem formW_le (wide : Bool) (n : Nat) : formW wide n ≤ 4 := by
  unfold formW shortF
  repeat' split
  all_goals omega
theorem formW_zero {wide : Bool} {n : Nat} (h : formW wide n = 0) : n < 24 := by
  unfold formW shortF at h
  split at h
  · cases h
  · split at h
    · assumption
    · repeat' split at h
      all_goals cases h
theorem formW_fits {wide : Bool} {n : Nat} (hn : n < 18446744073709551616) (h : ¬ formW wide n = 0) : n < 256 ^ formSz (formW wide n) := by
  unfold formW shortF at *
  split
  · exact hn
  · rename_i hw
    rw [if_neg hw] at h
    split
    · rename_i h1
      rw [if_pos h1] at h
      exact absurd rfl h
    · split
      · assumption
      · split
        · assumption
        · split
          · assumption
          · exact hn

theorem oneS_enc (wide : Bool) (x r : List Nat) (hx : x.length < 18446744073709551616) : oneS ⟨encI wide x ++ r, false⟩ = (x, ⟨r, false⟩) := by
  have hh : hd 64 (encI wide x ++ r) = some (x.length, 1 + formSz (formW wide x.length)) := by
    unfold encI
    rw [List.append_assoc]
    exact hd_enc (k := 2) (formW_le _ _) formW_zero (formW_fits hx)
  have hdp : (encI wide x ++ r).drop (1 + formSz (formW wide x.length)) = x ++ r := by
    unfold encI
    rw [List.append_assoc]
    exact List.drop_left' (encH_length _ _ _)
  rw [oneS_some hh (by rw [hdp, List.length_append]; omega), hdp, List.take_left, List.drop_left]

theorem encL_append (wide : Bool) : ∀ (A B : List (List Nat)), encL wide (A ++ B) = encL wide A ++ encL wide B
  | [], B => rfl
  | x :: A, B => by rw [List.cons_append, encL, encL, encL_append wide A B, List.append_assoc]

theorem encI_pos (wide : Bool) (x : List Nat) : x.length + 1 ≤ (encI wide x).length := by
  unfold encI
  rw [List.length_append, encH_length]
  omega
theorem encI_le (wide : Bool) (x : List Nat) : (encI wide x).length ≤ x.length + 9 := by
  unfold encI
  rw [List.length_append, encH_length]
  have := formSz_le (formW wide x.length)
  omega
theorem encL_pos (wide : Bool) : ∀ L : List (List Nat), L.length ≤ (encL wide L).length
  | [] => Nat.le_refl _
  | x :: r => by
    have h1 := encL_pos wide r
    have h2 := encI_pos wide x
    rw [encL, List.length_append, List.length_cons]
    omega

theorem runS_enc (wide : Bool) (L : List (List Nat)) (tail : List Nat) (hL : ∀ x ∈ L, x.length < 18446744073709551616) : ∀ k, k ≤ L.length → runS ⟨encL wide L ++ tail, false⟩ k = (L.take k, ⟨encL wide (L.drop k) ++ tail, false⟩)
  | 0, _ => by simp [runS]
  | k + 1, hk => by
    have ih := runS_enc wide L tail hL k (by omega)
    have hd1 : L.drop k = L[k]'(by omega) :: L.drop (k + 1) := List.drop_eq_getElem_cons (by omega)
    rw [runS, ih]
    simp only
    rw [hd1, encL, List.append_assoc, oneS_enc wide _ _ (hL _ (List.getElem_mem _)), List.take_succ_eq_append_getElem (by omega)]

theorem bsS_enc (wide : Bool) (L : List (List Nat)) (tail : List Nat) (hL : ∀ x ∈ L, x.length < 18446744073709551616) (hN : L.length < 18446744073709551616) :
    arrS ⟨encA wide L ++ tail, false⟩ = (L.length, ⟨encL wide L ++ tail, false⟩) ∧ bsS ⟨encA wide L ++ tail, false⟩ = (L, ⟨tail, false⟩) := by
  have hh : hd 128 (encA wide L ++ tail) = some (L.length, 1 + formSz (formW wide L.length)) := by
    unfold encA
    rw [List.append_assoc]
    exact hd_enc (k := 4) (formW_le _ _) formW_zero (formW_fits hN)
  have hdp : (encA wide L ++ tail).drop (1 + formSz (formW wide L.length)) = encL wide L ++ tail := by
    unfold encA
    rw [List.append_assoc]
    exact List.drop_left' (encH_length _ _ _)
  have e : arrS ⟨encA wide L ++ tail, false⟩ = (L.length, ⟨encL wide L ++ tail, false⟩) := by
    rw [arrS_some hh (by rw [hdp, List.length_append]; have := encL_pos wide L; omega), hdp]
  refine ⟨e, ?_⟩
  unfold bsS
  rw [e]
  simp only
  rw [runS_enc wide L tail hL _ (Nat.le_refl _)]
  simp [encL]

/-- The sum of the first k lengths. -/
def sumL (L : List (List Nat)) (k : Nat) : Nat := ((L.take k).map List.length).sum
theorem sumL_zero (L : List (List Nat)) : sumL L 0 = 0 := by simp [sumL]
theorem sumL_succ {L : List (List Nat)} {k : Nat} (h : k < L.length) : sumL L (k + 1) = sumL L k + (L.getD k []).length := by
  unfold sumL
  rw [List.take_succ_eq_append_getElem h, List.getD, List.getElem?_eq_getElem h, List.map_append, List.sum_append, List.map_cons, List.map_nil, List.sum_cons, List.sum_nil, Option.getD_some, Nat.add_zero]
theorem encL_take_succ {wide : Bool} {L : List (List Nat)} {k : Nat} (h : k < L.length) : encL wide (L.take (k + 1)) = encL wide (L.take k) ++ encI wide (L.getD k []) := by
  rw [List.take_succ_eq_append_getElem h, encL_append, List.getD, List.getElem?_eq_getElem h]
  simp [encL]
theorem encL_take_le (wide : Bool) (L : List (List Nat)) : ∀ k, k ≤ L.length → (encL wide (L.take k)).length ≤ 9 * k + sumL L k
  | 0, _ => by simp [encL]
  | k + 1, h => by
    rw [encL_take_succ (by omega), List.length_append, sumL_succ (by omega)]
    have := encL_take_le wide L k (by omega)
    have := encI_le wide (L.getD k [])
    omega

end Go.Proofs.Qxb6600244a
