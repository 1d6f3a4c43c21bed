/- The plain side of reading an array of byte strings: no Go in sight. -/
import Derived.Test.Qxb6600244aPlain
namespace Go.Proofs.Qxb6600244a

/-- A reader's state: what is left, and whether it has failed. -/
structure St where
  zs : List Nat
  fl : Bool

/-- One byte string read. -/
def oneS (s : St) : List Nat × St :=
  if s.fl = true then ([], s)
  else match hd 64 s.zs with
    | none => ([], ⟨s.zs, true⟩)
    | some (v, k) => if (s.zs.drop k).length < v then ([], ⟨s.zs.drop k, true⟩) else ((s.zs.drop k).take v, ⟨(s.zs.drop k).drop v, false⟩)

/-- The head of the array: how many items, and the state behind it. -/
def arrS (s : St) : Nat × St :=
  if s.fl = true then (0, s)
  else match hd 128 s.zs with
    | none => (0, ⟨s.zs, true⟩)
    | some (v, k) => if (s.zs.drop k).length < v then (0, ⟨s.zs.drop k, true⟩) else (v, ⟨s.zs.drop k, false⟩)

/-- n byte strings read one behind another. -/
def runS (s : St) : Nat → List (List Nat) × St
  | 0 => ([], s)
  | n + 1 => ((runS s n).1 ++ [(oneS (runS s n).2).1], (oneS (runS s n).2).2)

/-- An array of byte strings. -/
def bsS (s : St) : List (List Nat) × St := runS (arrS s).2 (arrS s).1

theorem runS_length (s : St) : ∀ n, (runS s n).1.length = n
  | 0 => rfl
  | n + 1 => by simp [runS, runS_length s n]

theorem runS_get (s : St) (n : Nat) : ∀ i, i < n → (runS s (n + 1)).1.getD i [] = (runS s n).1.getD i [] := by
  intro i hi
  have h := runS_length s n
  simp [runS, List.getD, List.getElem?_append_left (show i < (runS s n).1.length by omega)]
theorem runS_last (s : St) (n : Nat) : (runS s (n + 1)).1.getD n [] = (oneS (runS s n).2).1 := by
  have h := runS_length s n
  simp [runS, List.getD, h]
theorem runS_pre (s : St) {n m i : Nat} (hi : i < n) (hm : n ≤ m) : (runS s m).1.getD i [] = (runS s n).1.getD i [] := by
  induction m with
  | zero => omega
  | succ m ih =>
    by_cases h : n = m + 1
    · subst h; rfl
    · rw [runS_get s m i (by omega), ih (by omega)]

theorem oneS_failed {s : St} (h : s.fl = true) : oneS s = ([], s) := by unfold oneS; rw [if_pos h]
theorem oneS_none {zs : List Nat} (h : hd 64 zs = none) : oneS ⟨zs, false⟩ = ([], ⟨zs, true⟩) := by unfold oneS; rw [if_neg (by simp)]; simp [h]
theorem oneS_short {zs : List Nat} {v k : Nat} (h : hd 64 zs = some (v, k)) (hv : (zs.drop k).length < v) : oneS ⟨zs, false⟩ = ([], ⟨zs.drop k, true⟩) := by
  unfold oneS; rw [if_neg (by simp)]; simp only [h]; rw [if_pos hv]
theorem oneS_some {zs : List Nat} {v k : Nat} (h : hd 64 zs = some (v, k)) (hv : ¬ (zs.drop k).length < v) : oneS ⟨zs, false⟩ = ((zs.drop k).take v, ⟨(zs.drop k).drop v, false⟩) := by
  unfold oneS; rw [if_neg (by simp)]; simp only [h]; rw [if_neg hv]

theorem arrS_failed {s : St} (h : s.fl = true) : arrS s = (0, s) := by unfold arrS; rw [if_pos h]
theorem arrS_none {zs : List Nat} (h : hd 128 zs = none) : arrS ⟨zs, false⟩ = (0, ⟨zs, true⟩) := by unfold arrS; rw [if_neg (by simp)]; simp [h]
theorem arrS_short {zs : List Nat} {v k : Nat} (h : hd 128 zs = some (v, k)) (hv : (zs.drop k).length < v) : arrS ⟨zs, false⟩ = (0, ⟨zs.drop k, true⟩) := by
  unfold arrS; rw [if_neg (by simp)]; simp only [h]; rw [if_pos hv]
theorem arrS_some {zs : List Nat} {v k : Nat} (h : hd 128 zs = some (v, k)) (hv : ¬ (zs.drop k).length < v) : arrS ⟨zs, false⟩ = (v, ⟨zs.drop k, false⟩) := by
  unfold arrS; rw [if_neg (by simp)]; simp only [h]; rw [if_neg hv]

/-- The fast way through a short byte string. -/
theorem oneS_fast {zs : List Nat} (h0 : 0 < zs.length) (h1 : 64 ≤ zs.getD 0 0) (h2 : zs.getD 0 0 < 88) (h3 : zs.getD 0 0 - 64 < zs.length) :
    oneS ⟨zs, false⟩ = ((zs.drop 1).take (zs.getD 0 0 - 64), ⟨zs.drop (zs.getD 0 0 - 64 + 1), false⟩) := by
  have hh : hd 64 zs = some (zs.getD 0 0 % 32, 1) := hd_small (by omega) (by omega) (by omega)
  have e : zs.getD 0 0 % 32 = zs.getD 0 0 - 64 := by omega
  rw [e] at hh
  rw [oneS_some hh (by rw [List.length_drop]; omega), List.drop_drop, Nat.add_comm 1]

theorem arrS_le (s : St) : (arrS s).1 ≤ s.zs.length := by
  unfold arrS
  split
  · simp
  · split
    · simp
    · split
      · simp
      · rename_i h
        rw [List.length_drop] at h
        show _ ≤ _
        omega

end Go.Proofs.Qxb6600244a
