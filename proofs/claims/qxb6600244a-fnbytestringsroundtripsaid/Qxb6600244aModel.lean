import Derived.Test.Qxb6600244aHead3
import Derived.Test.Qxb6600244aBsPlain
namespace Go.Proofs.Qxb6600244a
open Go.RowKit
set_option linter.unusedVariables false

/-! ### Plain: a number by its bytes, from the back -/
theorem be_fold : ∀ (r : List Nat) (a : Nat), r.foldl (fun n b => n * 256 + b) a = a * 256 ^ r.length + be r
  | [], a => by simp [be]
  | x :: r, a => by
    have h := be_fold r (0 * 256 + x)
    have e : be (x :: r) = r.foldl (fun n b => n * 256 + b) (0 * 256 + x) := rfl
    rw [List.foldl_cons, be_fold r, e, h, List.length_cons, Nat.pow_succ, Nat.zero_mul, Nat.zero_add, Nat.add_mul, Nat.mul_assoc, Nat.mul_comm 256]
    omega
theorem be_cons (x : Nat) (r : List Nat) : be (x :: r) = x * 256 ^ r.length + be r := by
  rw [show be (x :: r) = r.foldl (fun n b => n * 256 + b) (0 * 256 + x) from rfl, be_fold, Nat.zero_mul, Nat.zero_add]
theorem be_drop_succ {l : List Nat} {S t : Nat} (hl : l.length = S) (ht : t < S) : be (l.drop (S - (t + 1))) = l.getD (S - (t + 1)) 0 * 256 ^ t + be (l.drop (S - t)) := by
  have hx : l.getD (S - (t + 1)) 0 = l[S - (t + 1)]'(by omega) := by rw [List.getD, List.getElem?_eq_getElem (by omega), Option.getD_some]
  have e : (l.drop (S - t)).length = t := by rw [List.length_drop]; omega
  rw [hx, List.drop_eq_getElem_cons (by omega), be_cons, show S - (t + 1) + 1 = S - t by omega, e]
theorem be_drop_lt {l : List Nat} {S t : Nat} (hlt : ∀ z ∈ l, z < 256) (hl : l.length = S) (ht : t ≤ S) : be (l.drop (S - t)) < 256 ^ t := by
  have h := be_lt (l := l.drop (S - t)) (fun z hz => hlt z (List.mem_of_mem_drop hz))
  rwa [List.length_drop, hl, show S - (S - t) = t by omega] at h

theorem or_hi (v y t : Nat) (hv : v < 256 ^ t) (hy : y < 256) (ht : t < 8) : bits BinOp.or IntKind.u64 (v : Int) (IntKind.u64.wrap ((y : Int) * 2 ^ (8 * t))) = ((y * 256 ^ t + v : Nat) : Int) := by
  have e1 : (2 : Int) ^ (8 * t) = ((256 ^ t : Nat) : Int) := by
    rw [Int.pow_mul]
    simp
  have hle : 256 ^ t ≤ 256 ^ 7 := Nat.pow_le_pow_right (by omega) (by omega)
  have h2 : y * 256 ^ t ≤ 255 * 256 ^ 7 := Nat.mul_le_mul (by omega) hle
  have e2 : IntKind.u64.wrap ((y : Int) * 2 ^ (8 * t)) = ((y * 256 ^ t : Nat) : Int) := by
    rw [e1, ← Int.natCast_mul, IntKind.wrap_u64]
    omega
  have e3 : (y * 256 ^ t) % 2 ^ (8 * t) = 0 := by
    rw [Nat.pow_mul]
    exact Nat.mul_mod_left _ _
  rw [e2, u64_or_nat _ _ (by omega) (by omega), Nat.or_comm, nat_join (8 * t) (y * 256 ^ t) v e3 (by rw [Nat.pow_mul]; exact hv)]

theorem ret_u64 {a b : Int} (h : a = b) : Value.int .u64 a = .int .u64 b := by rw [h]

/-! ### modelHead -/
theorem getD_drop (zs : List Nat) (p : Nat) : (zs.drop p).getD 0 0 = zs.getD p 0 := by simp [List.getD]

set_option maxHeartbeats 400000 in
theorem model_out (m n c p : Nat) (a : Option Addr) (w : World) (hp : n ≤ p) (hp' : p ≤ 1048576) :
    Calls Try.prog 28 #[.slice a n c, .int .i64 (p : Int), .int .u8 (m : Int)] w fun e w' => e = .returned (.tuple #[.int .u64 0, .int .i64 (p : Int), .bool false]) ∧ w' = w := by
  have hpi : (n : Int) ≤ (p : Int) := by omega
  go_enter Try.func28, Try.ntmps28
  go_wp2
  go_ret3
  exact ⟨rfl, rfl⟩

set_option maxHeartbeats 1000000 in
theorem model_bad (m b off n c p z : Nat) (w : World) (hz : w.cell? ⟨b, off + p, none⟩ = some (.int .u8 (z : Int))) (hz' : z < 256) (hm0 : m % 32 = 0) (hm256 : m < 256) (hp : p < n) (hn : n ≤ 1048576)
    (hbad : ¬ z / 32 * 32 = m ∨ 27 < z % 32) :
    Calls Try.prog 28 #[.slice (some ⟨b, off, none⟩) n c, .int .i64 (p : Int), .int .u8 (m : Int)] w fun e w' => e = .returned (.tuple #[.int .u64 0, .int .i64 (p : Int), .bool false]) ∧ w' = w := by
  have hmm : (m : Int) % 32 = 0 := by omega
  have hpi : (p : Int) < (n : Int) := by omega
  by_cases hm : z / 32 * 32 = m
  · have hmi : (z : Int) / 32 = (m : Int) / 32 := by omega
    have h27 : (27 : Int) < (z : Int) % 32 := by omega
    have e4 : ¬ (z : Int) % 32 = 24 := by omega
    have e5 : ¬ (z : Int) % 32 = 25 := by omega
    have e6 : ¬ (z : Int) % 32 = 26 := by omega
    have e7 : ¬ (z : Int) % 32 = 27 := by omega
    clear hbad
    go_enter Try.func28, Try.ntmps28
    go_wp2
    go_ret3
    exact ⟨rfl, rfl⟩
  · have hmi : ¬ (z : Int) / 32 = (m : Int) / 32 := by omega
    clear hbad
    go_enter Try.func28, Try.ntmps28
    go_wp2
    go_ret3
    exact ⟨rfl, rfl⟩

set_option maxHeartbeats 1000000 in
theorem model_small (m b off n c p z : Nat) (w : World) (hz : w.cell? ⟨b, off + p, none⟩ = some (.int .u8 (z : Int))) (hz' : z < 256) (hm0 : m % 32 = 0) (hm256 : m < 256) (hp : p < n) (hn : n ≤ 1048576)
    (hm : z / 32 * 32 = m) (hi : z % 32 < 24) :
    Calls Try.prog 28 #[.slice (some ⟨b, off, none⟩) n c, .int .i64 (p : Int), .int .u8 (m : Int)] w fun e w' => e = .returned (.tuple #[.int .u64 ((z % 32 : Nat) : Int), .int .i64 ((p + 1 : Nat) : Int), .bool true]) ∧ w' = w := by
  have hmm : (m : Int) % 32 = 0 := by omega
  have hpi : (p : Int) < (n : Int) := by omega
  have hmi : (z : Int) / 32 = (m : Int) / 32 := by omega
  have h24 : (z : Int) % 32 < 24 := by omega
  go_enter Try.func28, Try.ntmps28
  go_wp2
  go_ret3
  exact ⟨rfl, rfl⟩

set_option maxHeartbeats 2000000 in
theorem model_short (m b off n c p z i s : Nat) (w : World) (hz : w.cell? ⟨b, off + p, none⟩ = some (.int .u8 (z : Int))) (hz' : z < 256) (hm0 : m % 32 = 0) (hm256 : m < 256) (hp : p < n) (hn : n ≤ 1048576)
    (hm : z / 32 * 32 = m) (hi : z % 32 = i) (his : (i = 24 ∧ s = 1) ∨ (i = 25 ∧ s = 2) ∨ (i = 26 ∧ s = 4) ∨ (i = 27 ∧ s = 8)) (hs : n < p + (1 + s)) :
    Calls Try.prog 28 #[.slice (some ⟨b, off, none⟩) n c, .int .i64 (p : Int), .int .u8 (m : Int)] w fun e w' => e = .returned (.tuple #[.int .u64 0, .int .i64 (p : Int), .bool false]) ∧ w' = w := by
  have hmm : (m : Int) % 32 = 0 := by omega
  have hpi : (p : Int) < (n : Int) := by omega
  have hmi : (z : Int) / 32 = (m : Int) / 32 := by omega
  have hzi : (z : Int) % 32 = (i : Int) := by omega
  rcases his with ⟨rfl, rfl⟩ | ⟨rfl, rfl⟩ | ⟨rfl, rfl⟩ | ⟨rfl, rfl⟩
  all_goals
    simp only [Int.cast_ofNat_Int] at hzi
    go_enter Try.func28, Try.ntmps28
    go_wp2
    go_ret3
    exact ⟨rfl, rfl⟩

set_option maxHeartbeats 4000000 in
theorem model_long (m b off n c p z i s : Nat) (zs : List Nat) (w : World) (B : Nat) (hB : BV B w (some ⟨b, off, none⟩) n zs) (hz : w.cell? ⟨b, off + p, none⟩ = some (.int .u8 (z : Int))) (hz' : z < 256) (hm0 : m % 32 = 0) (hm256 : m < 256) (hp : p < n) (hn : n ≤ 1048576)
    (hm : z / 32 * 32 = m) (hi : z % 32 = i) (his : (i = 24 ∧ s = 1) ∨ (i = 25 ∧ s = 2) ∨ (i = 26 ∧ s = 4) ∨ (i = 27 ∧ s = 8)) (hs : p + (1 + s) ≤ n) (l : List Nat) (hl : l = (zs.drop (p + 1)).take s) :
    Calls Try.prog 28 #[.slice (some ⟨b, off, none⟩) n c, .int .i64 (p : Int), .int .u8 (m : Int)] w fun e w' => e = .returned (.tuple #[.int .u64 ((be l : Nat) : Int), .int .i64 ((p + (1 + s) : Nat) : Int), .bool true]) ∧ w' = w := by
  have hmm : (m : Int) % 32 = 0 := by omega
  have hpi : (p : Int) < (n : Int) := by omega
  have hmi : (z : Int) / 32 = (m : Int) / 32 := by omega
  have hzi : (z : Int) % 32 = (i : Int) := by omega
  have hll : l.length = s := by rw [hl]; simp [hB.len]; omega
  have hl256 : ∀ z ∈ l, z < 256 := fun z h => hB.lt z (by rw [hl] at h; exact List.mem_of_mem_drop (List.mem_of_mem_take h))
  have hcells : ∀ t, t < s → ∃ y : Nat, y = l.getD (s - (t + 1)) 0 ∧ y < 256 ∧ w.cell? ⟨b, off + (p + (s - t)), none⟩ = some (.int .u8 (y : Int)) := by
    intro t ht
    obtain ⟨b', off', e, _, hc, hc256⟩ := hB.at (i := p + (s - t)) (by omega)
    simp only [Option.some.injEq, Addr.mk.injEq, and_true] at e
    obtain ⟨rfl, rfl⟩ := e
    refine ⟨_, ?_, hc256, hc⟩
    rw [hl]
    simp only [List.getD, List.getElem?_take, List.getElem?_drop]
    rw [if_pos (by omega), show p + 1 + (s - (t + 1)) = p + (s - t) by omega]
  have HC := (show Hid _ from hcells)
  have HLL : Hid (l.length = s) := hll
  have HL2 := (show Hid _ from hl256)
  clear hl hB hcells hll hl256 hm
  rcases his with ⟨rfl, rfl⟩ | ⟨rfl, rfl⟩ | ⟨rfl, rfl⟩ | ⟨rfl, rfl⟩
  · simp only [Int.cast_ofNat_Int] at hzi
    go_enter Try.func28, Try.ntmps28
    go_wp2
    go_loop [12, 13, 14] (fun v sh k => ∃ t : Nat, t ≤ 1 ∧ k = .int .i64 ((1 : Int) - t) ∧ sh = .int .u64 ((8 * t : Nat) : Int) ∧ v = .int .u64 ((be (l.drop (1 - t)) : Nat) : Int)) (fun _ _ k => (intOf k).toNat)
    case atStart => exact ⟨0, by omega, rfl, rfl, by rw [List.drop_of_length_le (by rw [HLL.out]; omega)]; rfl⟩
    case round =>
      obtain ⟨t, ht, rfl, rfl, rfl⟩ := hrel
      by_cases hlt : t < 1
      · have h1 : (1 : Int) ≤ 1 - (t : Int) := by omega
        obtain ⟨y, hye, hy, hcy⟩ := HC.out t hlt
        have hpt : ((p : Int) + (1 - (t : Int))).toNat = p + (1 - t) := by omega
        have hsucc := be_drop_succ (l := l) HLL.out hlt
        rw [← hye] at hsucc
        obtain ⟨v, hv⟩ : ∃ v, v = be (l.drop (1 - t)) := ⟨_, rfl⟩
        have hvlt : v < 256 ^ t := by rw [hv]; exact be_drop_lt HL2.out HLL.out ht
        rw [← hv] at hsucc
        rw [← hv]
        have HS : Hid (be (l.drop (1 - (t + 1))) = y * 256 ^ t + v) := hsucc
        have HV : Hid (v < 256 ^ t) := hvlt
        clear hye hsucc hv hvlt
        go_wp2
        go_round
        case rel => exact ⟨t + 1, by omega, by go_num, by go_num, ret_u64 (by rw [HS.out]; exact or_hi v y t HV.out hy (by omega))⟩
        case measure => simp [intOf]; omega
      · obtain rfl : t = 1 := by omega
        have e0 : (1 : Int) - ((1 : Nat) : Int) = 0 := by omega
        rw [e0]
        clear HC HL2 hlt
        go_wp2
        go_ret3
        exact ⟨rfl, rfl⟩
  · simp only [Int.cast_ofNat_Int] at hzi
    go_enter Try.func28, Try.ntmps28
    go_wp2
    go_loop [12, 13, 14] (fun v sh k => ∃ t : Nat, t ≤ 2 ∧ k = .int .i64 ((2 : Int) - t) ∧ sh = .int .u64 ((8 * t : Nat) : Int) ∧ v = .int .u64 ((be (l.drop (2 - t)) : Nat) : Int)) (fun _ _ k => (intOf k).toNat)
    case atStart => exact ⟨0, by omega, rfl, rfl, by rw [List.drop_of_length_le (by rw [HLL.out]; omega)]; rfl⟩
    case round =>
      obtain ⟨t, ht, rfl, rfl, rfl⟩ := hrel
      by_cases hlt : t < 2
      · have h1 : (1 : Int) ≤ 2 - (t : Int) := by omega
        obtain ⟨y, hye, hy, hcy⟩ := HC.out t hlt
        have hpt : ((p : Int) + (2 - (t : Int))).toNat = p + (2 - t) := by omega
        have hsucc := be_drop_succ (l := l) HLL.out hlt
        rw [← hye] at hsucc
        obtain ⟨v, hv⟩ : ∃ v, v = be (l.drop (2 - t)) := ⟨_, rfl⟩
        have hvlt : v < 256 ^ t := by rw [hv]; exact be_drop_lt HL2.out HLL.out ht
        rw [← hv] at hsucc
        rw [← hv]
        have HS : Hid (be (l.drop (2 - (t + 1))) = y * 256 ^ t + v) := hsucc
        have HV : Hid (v < 256 ^ t) := hvlt
        clear hye hsucc hv hvlt
        go_wp2
        go_round
        case rel => exact ⟨t + 1, by omega, by go_num, by go_num, ret_u64 (by rw [HS.out]; exact or_hi v y t HV.out hy (by omega))⟩
        case measure => simp [intOf]; omega
      · obtain rfl : t = 2 := by omega
        have e0 : (2 : Int) - ((2 : Nat) : Int) = 0 := by omega
        rw [e0]
        clear HC HL2 hlt
        go_wp2
        go_ret3
        exact ⟨rfl, rfl⟩
  · simp only [Int.cast_ofNat_Int] at hzi
    go_enter Try.func28, Try.ntmps28
    go_wp2
    go_loop [12, 13, 14] (fun v sh k => ∃ t : Nat, t ≤ 4 ∧ k = .int .i64 ((4 : Int) - t) ∧ sh = .int .u64 ((8 * t : Nat) : Int) ∧ v = .int .u64 ((be (l.drop (4 - t)) : Nat) : Int)) (fun _ _ k => (intOf k).toNat)
    case atStart => exact ⟨0, by omega, rfl, rfl, by rw [List.drop_of_length_le (by rw [HLL.out]; omega)]; rfl⟩
    case round =>
      obtain ⟨t, ht, rfl, rfl, rfl⟩ := hrel
      by_cases hlt : t < 4
      · have h1 : (1 : Int) ≤ 4 - (t : Int) := by omega
        obtain ⟨y, hye, hy, hcy⟩ := HC.out t hlt
        have hpt : ((p : Int) + (4 - (t : Int))).toNat = p + (4 - t) := by omega
        have hsucc := be_drop_succ (l := l) HLL.out hlt
        rw [← hye] at hsucc
        obtain ⟨v, hv⟩ : ∃ v, v = be (l.drop (4 - t)) := ⟨_, rfl⟩
        have hvlt : v < 256 ^ t := by rw [hv]; exact be_drop_lt HL2.out HLL.out ht
        rw [← hv] at hsucc
        rw [← hv]
        have HS : Hid (be (l.drop (4 - (t + 1))) = y * 256 ^ t + v) := hsucc
        have HV : Hid (v < 256 ^ t) := hvlt
        clear hye hsucc hv hvlt
        go_wp2
        go_round
        case rel => exact ⟨t + 1, by omega, by go_num, by go_num, ret_u64 (by rw [HS.out]; exact or_hi v y t HV.out hy (by omega))⟩
        case measure => simp [intOf]; omega
      · obtain rfl : t = 4 := by omega
        have e0 : (4 : Int) - ((4 : Nat) : Int) = 0 := by omega
        rw [e0]
        clear HC HL2 hlt
        go_wp2
        go_ret3
        exact ⟨rfl, rfl⟩
  · simp only [Int.cast_ofNat_Int] at hzi
    go_enter Try.func28, Try.ntmps28
    go_wp2
    go_loop [12, 13, 14] (fun v sh k => ∃ t : Nat, t ≤ 8 ∧ k = .int .i64 ((8 : Int) - t) ∧ sh = .int .u64 ((8 * t : Nat) : Int) ∧ v = .int .u64 ((be (l.drop (8 - t)) : Nat) : Int)) (fun _ _ k => (intOf k).toNat)
    case atStart => exact ⟨0, by omega, rfl, rfl, by rw [List.drop_of_length_le (by rw [HLL.out]; omega)]; rfl⟩
    case round =>
      obtain ⟨t, ht, rfl, rfl, rfl⟩ := hrel
      by_cases hlt : t < 8
      · have h1 : (1 : Int) ≤ 8 - (t : Int) := by omega
        obtain ⟨y, hye, hy, hcy⟩ := HC.out t hlt
        have hpt : ((p : Int) + (8 - (t : Int))).toNat = p + (8 - t) := by omega
        have hsucc := be_drop_succ (l := l) HLL.out hlt
        rw [← hye] at hsucc
        obtain ⟨v, hv⟩ : ∃ v, v = be (l.drop (8 - t)) := ⟨_, rfl⟩
        have hvlt : v < 256 ^ t := by rw [hv]; exact be_drop_lt HL2.out HLL.out ht
        rw [← hv] at hsucc
        rw [← hv]
        have HS : Hid (be (l.drop (8 - (t + 1))) = y * 256 ^ t + v) := hsucc
        have HV : Hid (v < 256 ^ t) := hvlt
        clear hye hsucc hv hvlt
        go_wp2
        go_round
        case rel => exact ⟨t + 1, by omega, by go_num, by go_num, ret_u64 (by rw [HS.out]; exact or_hi v y t HV.out hy (by omega))⟩
        case measure => simp [intOf]; omega
      · obtain rfl : t = 8 := by omega
        have e0 : (8 : Int) - ((8 : Nat) : Int) = 0 := by omega
        rw [e0]
        clear HC HL2 hlt
        go_wp2
        go_ret3
        exact ⟨rfl, rfl⟩

theorem modelHead_none (m n c p : Nat) (a : Option Addr) (zs : List Nat) (w : World) (B : Nat) (hB : BV B w a n zs) (hm0 : m % 32 = 0) (hm256 : m < 256) (hn : n ≤ 1048576) (hp : p ≤ n) (h : hd m (zs.drop p) = none) :
    Calls Try.prog 28 #[.slice a n c, .int .i64 (p : Int), .int .u8 (m : Int)] w fun e w' => e = .returned (.tuple #[.int .u64 0, .int .i64 (p : Int), .bool false]) ∧ w' = w := by
  have hlen := hB.len
  by_cases h0 : n ≤ p
  · exact model_out m n c p a w h0 (by omega)
  obtain ⟨b, off, rfl, _, hz, hz'⟩ := hB.at (i := p) (by omega)
  have hd0 : (zs.drop p).length = n - p := by rw [List.length_drop]; omega
  by_cases h1 : zs.getD p 0 / 32 * 32 = m
  · by_cases h2 : 27 < zs.getD p 0 % 32
    · exact model_bad m b off n c p _ w hz hz' hm0 hm256 (by omega) hn (.inr h2)
    · by_cases h3 : zs.getD p 0 % 32 < 24
      · rw [hd_small (by omega) (by rw [getD_drop]; exact h1) (by rw [getD_drop]; exact h3)] at h
        cases h
      · by_cases h4 : (zs.drop p).length < 1 + sizeOfInfo (zs.getD p 0 % 32)
        · exact model_short m b off n c p _ _ _ w hz hz' hm0 hm256 (by omega) hn h1 rfl (info_cases (by omega) (by omega)) (by omega)
        · rw [hd_long (s := sizeOfInfo (zs.getD p 0 % 32)) (by rw [getD_drop]; exact h1) (by rw [getD_drop]; omega) (by rw [getD_drop]; omega) (by rw [getD_drop]) (by omega)] at h
          cases h
  · exact model_bad m b off n c p _ w hz hz' hm0 hm256 (by omega) hn (.inl h1)

theorem modelHead_some (m n c p v k : Nat) (a : Option Addr) (zs : List Nat) (w : World) (B : Nat) (hB : BV B w a n zs) (hm0 : m % 32 = 0) (hm256 : m < 256) (hn : n ≤ 1048576) (h : hd m (zs.drop p) = some (v, k)) :
    Calls Try.prog 28 #[.slice a n c, .int .i64 (p : Int), .int .u8 (m : Int)] w fun e w' => e = .returned (.tuple #[.int .u64 (v : Int), .int .i64 ((p + k : Nat) : Int), .bool true]) ∧ w' = w := by
  have hlen := hB.len
  have hd0 : (zs.drop p).length = n - p := by rw [List.length_drop]; omega
  by_cases h0 : n ≤ p
  · rw [hd_empty (by omega)] at h
    cases h
  obtain ⟨b, off, rfl, _, hz, hz'⟩ := hB.at (i := p) (by omega)
  by_cases h1 : zs.getD p 0 / 32 * 32 = m
  · by_cases h2 : 27 < zs.getD p 0 % 32
    · rw [hd_over (by rw [getD_drop]; exact h2)] at h
      cases h
    · by_cases h3 : zs.getD p 0 % 32 < 24
      · rw [hd_small (by omega) (by rw [getD_drop]; exact h1) (by rw [getD_drop]; exact h3), getD_drop] at h
        cases h
        exact model_small m b off n c p _ w hz hz' hm0 hm256 (by omega) hn h1 h3
      · by_cases h4 : (zs.drop p).length < 1 + sizeOfInfo (zs.getD p 0 % 32)
        · rw [hd_short (s := sizeOfInfo (zs.getD p 0 % 32)) (by rw [getD_drop]; omega) (by rw [getD_drop]) h4] at h
          cases h
        · rw [hd_long (s := sizeOfInfo (zs.getD p 0 % 32)) (by rw [getD_drop]; exact h1) (by rw [getD_drop]; omega) (by rw [getD_drop]; omega) (by rw [getD_drop]) (by omega), List.drop_drop] at h
          cases h
          exact model_long m b off n c p _ _ _ zs w B hB hz hz' hm0 hm256 (by omega) hn h1 rfl (info_cases (by omega) (by omega)) (by omega) _ rfl
  · rw [hd_major (by rw [getD_drop]; exact h1)] at h
    cases h

end Go.Proofs.Qxb6600244a
