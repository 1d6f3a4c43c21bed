/- The plain side of the heads of CBOR: no Go in sight. -/
import Derived.WalkKit
import Derived.Laws.BitsAllLaws
namespace Go.Proofs.Qxb6600244a

/-- The number whose bytes these are, the highest first. -/
def be (l : List Nat) : Nat := l.foldl (fun n b => n * 256 + b) 0

theorem be_nil : be [] = 0 := rfl
theorem be_snoc (l : List Nat) (b : Nat) : be (l ++ [b]) = be l * 256 + b := by simp [be, List.foldl_append]
theorem be_lt_aux : ∀ (l : List Nat) (a k : Nat), (∀ z ∈ l, z < 256) → a < 256 ^ k → l.foldl (fun n b => n * 256 + b) a < 256 ^ (k + l.length)
  | [], a, k, _, ha => by simpa using ha
  | x :: l, a, k, hl, ha => by
    rw [List.foldl_cons]
    have hx := hl x (by simp)
    have h1 : a * 256 + x < 256 ^ (k + 1) := by rw [Nat.pow_succ]; omega
    have := be_lt_aux l (a * 256 + x) (k + 1) (fun z hz => hl z (by simp [hz])) h1
    rwa [List.length_cons, Nat.add_comm l.length 1, ← Nat.add_assoc]
theorem be_lt {l : List Nat} (h : ∀ z ∈ l, z < 256) : be l < 256 ^ l.length := by
  have := be_lt_aux l 0 0 h (by simp)
  rwa [Nat.zero_add] at this

theorem take_snoc {l : List Nat} {k : Nat} (h : k < l.length) : l.take (k + 1) = l.take k ++ [l.getD k 0] := by
  rw [List.take_succ_eq_append_getElem h, List.getD, List.getElem?_eq_getElem h, Option.getD_some]

theorem be_take_succ {l : List Nat} {k : Nat} (h : k < l.length) : be (l.take (k + 1)) = be (l.take k) * 256 + l.getD k 0 := by
  rw [take_snoc h, be_snoc]

theorem be_take_lt {l : List Nat} (hl : ∀ z ∈ l, z < 256) {k j : Nat} (h : k ≤ j) : be (l.take k) < 256 ^ j := by
  have h1 := be_lt (l := l.take k) (fun z hz => hl z (List.mem_of_mem_take hz))
  have h2 : (l.take k).length ≤ j := by rw [List.length_take]; omega
  exact Nat.lt_of_lt_of_le h1 (Nat.pow_le_pow_right (by omega) h2)

/-- The bytes that follow a head by its additional information. -/
def sizeOfInfo (i : Nat) : Nat := if i < 24 then 0 else if i = 24 then 1 else if i = 25 then 2 else if i = 26 then 4 else 8

/-- A head of major type m ahead of zs: its argument and how many bytes it takes; none where it is no such head. -/
def hd (m : Nat) (zs : List Nat) : Option (Nat × Nat) :=
  if zs.length = 0 then none
  else if ¬ zs.getD 0 0 / 32 * 32 = m then none
  else if 27 < zs.getD 0 0 % 32 then none
  else if zs.getD 0 0 % 32 < 24 then some (zs.getD 0 0 % 32, 1)
  else if zs.length < 1 + sizeOfInfo (zs.getD 0 0 % 32) then none
  else some (be ((zs.drop 1).take (sizeOfInfo (zs.getD 0 0 % 32))), 1 + sizeOfInfo (zs.getD 0 0 % 32))

theorem hd_empty {m : Nat} {zs : List Nat} (h : zs.length = 0) : hd m zs = none := by unfold hd; rw [if_pos h]
theorem hd_major {m : Nat} {zs : List Nat} (h : ¬ zs.getD 0 0 / 32 * 32 = m) : hd m zs = none := by
  unfold hd
  split
  · rfl
  · rfl
theorem hd_over {m : Nat} {zs : List Nat} (h : 27 < zs.getD 0 0 % 32) : hd m zs = none := by
  unfold hd
  split
  · rfl
  · split
    · rfl
    · rfl
theorem hd_small {m : Nat} {zs : List Nat} (h0 : ¬ zs.length = 0) (h1 : zs.getD 0 0 / 32 * 32 = m) (h2 : zs.getD 0 0 % 32 < 24) : hd m zs = some (zs.getD 0 0 % 32, 1) := by
  unfold hd
  rw [if_neg h0, if_neg (by simpa using h1), if_neg (by omega), if_pos h2]
theorem hd_short {m s : Nat} {zs : List Nat} (h3 : 24 ≤ zs.getD 0 0 % 32) (hs : sizeOfInfo (zs.getD 0 0 % 32) = s) (h4 : zs.length < 1 + s) : hd m zs = none := by
  unfold hd
  rw [hs]
  split
  · rfl
  · split
    · rfl
    · split
      · rfl
      · rw [if_neg (by omega)]
theorem hd_long {m s : Nat} {zs : List Nat} (h1 : zs.getD 0 0 / 32 * 32 = m) (h2 : zs.getD 0 0 % 32 ≤ 27) (h3 : 24 ≤ zs.getD 0 0 % 32) (hs : sizeOfInfo (zs.getD 0 0 % 32) = s) (h4 : 1 + s ≤ zs.length) :
    hd m zs = some (be ((zs.drop 1).take s), 1 + s) := by
  unfold hd
  rw [hs, if_neg (by omega), if_neg (by simpa using h1), if_neg (by omega), if_neg (by omega), if_neg (by omega)]

theorem size24 {i : Nat} (h : i = 24) : sizeOfInfo i = 1 := by subst h; rfl
theorem size25 {i : Nat} (h : i = 25) : sizeOfInfo i = 2 := by subst h; rfl
theorem size26 {i : Nat} (h : i = 26) : sizeOfInfo i = 4 := by subst h; rfl
theorem size27 {i : Nat} (h : i = 27) : sizeOfInfo i = 8 := by subst h; rfl
theorem size_le (i : Nat) : sizeOfInfo i ≤ 8 := by unfold sizeOfInfo; repeat' split
                                                   all_goals omega

theorem hd_some {m v k : Nat} {zs : List Nat} (h : hd m zs = some (v, k)) : 0 < k ∧ k ≤ zs.length ∧ k ≤ 9 := by
  unfold hd at h
  split at h
  · cases h
  · split at h
    · cases h
    · split at h
      · cases h
      · split at h
        · cases h; omega
        · split at h
          · cases h
          · cases h
            have := size_le (zs.getD 0 0 % 32)
            omega

theorem hd_lt {m v k : Nat} {zs : List Nat} (hz : ∀ z ∈ zs, z < 256) (h : hd m zs = some (v, k)) : v < 256 ^ 8 := by
  unfold hd at h
  split at h
  · cases h
  · split at h
    · cases h
    · split at h
      · cases h
      · split at h
        · cases h; omega
        · split at h
          · cases h
          · cases h
            exact be_take_lt (fun z hz' => hz z (List.mem_of_mem_drop hz')) (size_le _)

theorem and224 : ∀ z : Nat, z < 256 → bits BinOp.and IntKind.u8 (z : Int) 224 = ((z / 32 * 32 : Nat) : Int) := by decide +kernel

theorem or_u64 (t y : Nat) (ht : t < 256 ^ 7) (hy : y < 256) : bits BinOp.or IntKind.u64 ((t : Int) * 256) (y : Int) = ((t * 256 + y : Nat) : Int) := by
  have e : ((t : Int) * 256) = ((t * 256 : Nat) : Int) := by omega
  rw [e, u64_or_nat _ _ (by omega) (by omega), nat_join 8 (t * 256) y (by omega) (by omega)]

end Go.Proofs.Qxb6600244a
