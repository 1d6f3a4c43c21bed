import Derived.Test.Qxb6600168aBase
namespace Go.Proofs.Qxb6600168a
open Go.RowKit

/-- Does the string end in '.go'? -/
def goS (s : ByteArray) : Bool := if 3 ≤ s.size then (s.extract (s.size - 3) s.size).toList == [46, 103, 111] else false

theorem goS_pos {s : ByteArray} (h : 3 ≤ s.size) : goS s = ((s.extract (s.size - 3) s.size).toList == [46, 103, 111]) := by unfold goS; rw [if_pos h]
theorem goS_neg {s : ByteArray} (h : ¬ 3 ≤ s.size) : goS s = false := by unfold goS; rw [if_neg h]

theorem ret_bool {a b : Bool} (h : a = b) : Ending.returned (.bool a) = .returned (.bool b) := by rw [h]

theorem endsGo_any (s : ByteArray) (w : World) (hs : s.size ≤ maxLen) : Calls Try.prog 29 #[.string s] w fun e w' => e = .returned (.bool (goS s)) ∧ w' = w := by
  unfold maxLen at hs
  by_cases h3 : 3 ≤ s.size
  · go_enter Try.func29, Try.ntmps29
    go_wp2
    go_ret
    exact ⟨ret_bool (goS_pos h3).symm, rfl⟩
  · go_enter Try.func29, Try.ntmps29
    go_wp2
    go_ret
    exact ⟨ret_bool (goS_neg h3).symm, rfl⟩

theorem hasSuffix_any (s : ByteArray) (w : World) (hs : s.size ≤ maxLen) : Calls Try.prog 38 #[.string s, .string ⟨#[46, 103, 111]⟩] w fun e w' => e = .returned (.bool (goS s)) ∧ w' = w := by
  unfold maxLen at hs
  by_cases h3 : 3 ≤ s.size
  · go_enter Try.func38, Try.ntmps38
    go_wp2
    go_ret
    exact ⟨ret_bool (goS_pos h3).symm, rfl⟩
  · go_enter Try.func38, Try.ntmps38
    go_wp2
    go_ret
    exact ⟨ret_bool (goS_neg h3).symm, rfl⟩

/-- How many of the leading strings end in '.go'. -/
def lead (l : List ByteArray) : Nat := (l.takeWhile goS).length
/-- How many of the arguments 'go run' takes. -/
def runN (l : List ByteArray) : Nat := if lead l = 0 then (if l = [] then 0 else 1) else lead l

theorem lead_le (l : List ByteArray) : lead l ≤ l.length := by
  unfold lead
  exact List.Sublist.length_le (List.takeWhile_sublist _)

theorem lead_eq : ∀ (l : List ByteArray) (k : Nat), k ≤ l.length → (∀ j, j < k → goS (l.getD j ByteArray.empty) = true) → (k < l.length → goS (l.getD k ByteArray.empty) = false) → lead l = k
  | [], k, hk, _, _ => by simp at hk; subst hk; rfl
  | x :: l, 0, _, _, h2 => by
    have h := h2 (by simp)
    simp [List.getD] at h
    unfold lead
    rw [List.takeWhile_cons, h]
    rfl
  | x :: l, k + 1, hk, h1, h2 => by
    have h := h1 0 (by omega)
    simp [List.getD] at h
    have ih := lead_eq l k (by simpa using hk) (fun j hj => by simpa [List.getD] using h1 (j + 1) (by omega)) (fun hlt => by simpa [List.getD] using h2 (by simpa using hlt))
    unfold lead at *
    rw [List.takeWhile_cons, h]
    simp [ih]

theorem lead_all : ∀ (l : List ByteArray) (j : Nat), j < lead l → goS (l.getD j ByteArray.empty) = true
  | [], j, h => by simp [lead] at h
  | x :: l, j, h => by
    unfold lead at h
    rw [List.takeWhile_cons] at h
    cases hx : goS x with
    | false => simp [hx] at h
    | true =>
      simp [hx] at h
      cases j with
      | zero => simpa [List.getD] using hx
      | succ j => simpa [List.getD] using lead_all l j (by unfold lead; omega)

theorem lead_end : ∀ (l : List ByteArray), lead l < l.length → goS (l.getD (lead l) ByteArray.empty) = false
  | [], h => by simp at h
  | x :: l, h => by
    cases hx : goS x with
    | false =>
      have e : lead (x :: l) = 0 := by unfold lead; simp [hx]
      rw [e]
      simpa [List.getD] using hx
    | true =>
      have e : lead (x :: l) = lead l + 1 := by unfold lead; simp [hx]
      rw [e]
      rw [e] at h
      simpa [List.getD] using lead_end l (by simpa using h)

theorem lead_nil : lead [] = 0 := rfl

theorem runN_le (l : List ByteArray) : runN l ≤ l.length := by
  have := lead_le l
  unfold runN
  split
  · split
    · omega
    · rename_i h
      have : 0 < l.length := List.length_pos_iff.2 h
      omega
  · omega

end Go.Proofs.Qxb6600168a
