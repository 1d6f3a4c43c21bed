import Derived.Test.Qxb6600244aZZBs
import Derived.Test.Qxb6600244aArgs
namespace Go.Proofs.Qxb6600244a
open Go.RowKit

theorem hid {p : Prop} (h : p) : Hid p := h

/-- What zzBytes tells: no, or the lengths are small. -/
def Told (P : Prop) (e : Ending) : Prop := e = .returned (.bool false) ∨ (e = .returned (.bool true) ∧ P)
theorem told_no {P : Prop} : Told P (.returned (.bool false)) := .inl rfl
theorem told_yes {P : Prop} (h : P) : Told P (.returned (.bool true)) := .inr ⟨rfl, h⟩

/-- The lengths are small. -/
def Small (n1 n2 : Nat) (L : List (List Nat)) : Prop := n1 ≤ 1048576 ∧ n2 ≤ 1048576 ∧ ∀ j, j < n2 → (L.getD j []).length ≤ 1048576

theorem RowA.at {w : World} {a : Option Addr} {n c : Nat} {L : List (List Nat)} (h : RowA w a n c L) {i : Nat} (hi : i < n) :
    ∃ b off ai ni ci, a = some ⟨b, off, none⟩ ∧ w.cell? ⟨b, off + i, none⟩ = some (.slice ai ni ci) ∧ (L.getD i []).length = ni ∧ ni ≤ maxLen := by
  obtain ⟨b, off, ai, ni, ci, e, _, hc, hA⟩ := h.cell i hi
  exact ⟨b, off, ai, ni, ci, e, hc, hA.bv.len, Nat.le_trans hA.le hA.max⟩

set_option maxHeartbeats 2000000 in
theorem zzBytes17 (a1 a2 : Option Addr) (n1 c1 n2 c2 : Nat) (L : List (List Nat)) (fl : Bool) (w : World) (h2 : RowA w a2 n2 c2 L) (hn1 : n1 ≤ maxLen) :
    Calls Try.prog 17 #[.slice a1 n1 c1, .bool fl, .slice a2 n2 c2] w fun e w' => Told (Small n1 n2 L) e ∧ w' = w := by
  have hn2 := Nat.le_trans h2.le h2.max
  unfold maxLen at hn1 hn2
  by_cases l1 : n1 ≤ 1048576
  · by_cases l2 : n2 ≤ 1048576
    · by_cases l3 : (n1 : Int) + n2 ≤ 1048576
      · go_enter Try.func17, Try.ntmps17
        go_wp2
        go_loop [7, 8] (fun t i => ∃ (k : Nat) (r : Int), k ≤ n2 ∧ i = .int .i64 k ∧ t = .int .i64 r ∧ 0 ≤ r ∧ r ≤ 1048576 ∧ ∀ j, j < k → (L.getD j []).length ≤ 1048576) (fun _ i => n2 - (intOf i).toNat)
        case atStart => exact ⟨0, _, Nat.zero_le _, rfl, rfl, by omega, by omega, fun j hj => by omega⟩
        case round =>
          obtain ⟨k, r, hk, rfl, rfl, hr0, hr1, hall⟩ := hrel
          by_cases hlt : k < n2
          · obtain ⟨b, off, ai, ni, ci, rfl, hc, hli, hni⟩ := h2.at hlt
            unfold maxLen at hni
            have HA : Hid (ni ≤ 1048576 → ∀ j, j < k + 1 → (L.getD j []).length ≤ 1048576) := by
              intro h j hj
              by_cases e : j = k
              · rw [e, hli]; exact h
              · exact hall j (by omega)
            clear h2 hall hli
            go_wp2
            all_goals first
              | (go_ret; exact ⟨told_no, rfl⟩)
              | (go_round
                 case rel => exact ⟨k + 1, _, by omega, by go_num, rfl, by omega, by omega, HA.out (by omega)⟩
                 case measure => simp [intOf]; omega)
          · have HA : Hid (∀ j, j < n2 → (L.getD j []).length ≤ 1048576) := fun j hj => hall j (by omega)
            clear h2 hall
            go_wp2
            go_ret
            exact ⟨told_yes ⟨l1, l2, HA.out⟩, rfl⟩
      · clear h2
        go_enter Try.func17, Try.ntmps17
        go_wp2
        go_ret
        exact ⟨told_no, rfl⟩
    · clear h2
      go_enter Try.func17, Try.ntmps17
      go_wp2
      all_goals go_ret
      all_goals exact ⟨told_no, rfl⟩
  · clear h2
    go_enter Try.func17, Try.ntmps17
    go_wp2
    go_ret
    exact ⟨told_no, rfl⟩

theorem RowA.mono {w w' : World} {a : Option Addr} {n c : Nat} {L : List (List Nat)} (h : RowA w a n c L) (hb : Below w.heap.size w w') : RowA w' a n c L :=
  ⟨h.len, h.nil, h.le, h.max, fun i hi => by
    obtain ⟨b, off, ai, ni, ci, e, hB, hc, hA⟩ := h.cell i hi
    have := hb.size
    exact ⟨b, off, ai, ni, ci, e, by omega, (hb.cell (p := ⟨b, off + i, none⟩) hB).trans hc, (hA.bv.mono hb).up hb.size, hA.nil, hA.le, hA.max⟩⟩

theorem RowV.two {R R' B : Nat} {w : World} {a a' : Option Addr} {n : Nat} {L : List (List Nat)} (h : RowV R B w a n L) (h' : RowV R' B w a' n L) {i : Nat} (hi : i < n) :
    ∃ b off b' off' ai ci aj cj m, a = some ⟨b, off, none⟩ ∧ a' = some ⟨b', off', none⟩ ∧ w.cell? ⟨b, off + i, none⟩ = some (.slice ai m ci) ∧ w.cell? ⟨b', off' + i, none⟩ = some (.slice aj m cj) ∧ BV B w ai m (L.getD i []) ∧ BV B w aj m (L.getD i []) := by
  obtain ⟨b, off, ai, ni, ci, e, _, hc, hv⟩ := h.cell i hi
  obtain ⟨b', off', aj, nj, cj, e', _, hc', hv'⟩ := h'.cell i hi
  have e1 := hv.len
  have e2 := hv'.len
  subst e1
  subst e2
  exact ⟨b, off, b', off', ai, ci, aj, cj, _, e, e', hc, hc', hv, hv'⟩

theorem oneS_len (s : St) : (oneS s).1.length ≤ s.zs.length := by
  unfold oneS
  split
  · simp
  · split
    · simp
    · split
      · simp
      · simp only [List.length_take, List.length_drop]
        omega

theorem runS_item (s : St) {n j : Nat} (hj : j < n) : ((runS s n).1.getD j []).length ≤ s.zs.length := by
  rw [runS_pre s (n := j + 1) (m := n) (by omega) (by omega), runS_last]
  exact Nat.le_trans (oneS_len _) (runS_shrinks s j)

set_option maxRecDepth 100000 in
set_option maxHeartbeats 4000000 in
theorem exact_walk (a1 : Option Addr) (n1 c1 : Nat) (zs : List Nat) (fl : Bool) (a2 : Option Addr) (n2 c2 : Nat) (L : List (List Nat)) (w : World) (h1 : ArgB w a1 n1 c1 zs) (h2 : RowA w a2 n2 c2 L) :
    Calls Try.prog 5 #[.slice a1 n1 c1, .bool fl, .slice a2 n2 c2] w fun e w' => e = .returned (.bool true) ∧ Below w.heap.size w w' := by
  go_enter Try.func5, Try.ntmps5
  go_wp2_with fail
  refine (zzBytes17 a1 a2 n1 c1 n2 c2 L fl w h2 (Nat.le_trans h1.le h1.max)).mono ?_
  rintro e w' ⟨ht, hw⟩
  obtain rfl := hw.symm
  rcases ht with rfl | ⟨rfl, hsm⟩
  · go_wp2
    go_ret
    exact ⟨rfl, Below.refl _ _⟩
  have s1 : n1 ≤ 1048576 := hsm.1
  have HS := hid (hsm)
  clear hsm
  by_cases l2 : n2 ≤ 65536
  · go_wp2
    go_loop [7, 8] (fun t i => ∃ (k : Nat) (r : Int), k ≤ n2 ∧ i = .int .i64 k ∧ t = .int .i64 r ∧ 0 ≤ r ∧ r ≤ 4194304) (fun _ i => n2 - (intOf i).toNat)
    case atStart => exact ⟨0, _, Nat.zero_le _, rfl, rfl, by omega, by omega⟩
    case round =>
      obtain ⟨k, r, hk, rfl, rfl, hr0, hr1⟩ := hrel
      by_cases hlt : k < n2
      · obtain ⟨b, off, ai, ni, ci, rfl, hc, hli, _⟩ := h2.at hlt
        have hni : ni ≤ 1048576 := by rw [← hli]; exact HS.out.2.2 k hlt
        clear h2 hli HS h1
        go_wp2
        all_goals first
          | (go_ret; exact ⟨rfl, Below.refl _ _⟩)
          | (go_round
             case rel => exact ⟨k + 1, _, by omega, by go_num, rfl, by omega, by omega⟩
             case measure => simp [intOf]; omega)
      · by_cases hr : 1048576 < r
        · go_wp2
          go_ret
          exact ⟨rfl, Below.refl _ _⟩
        · go_wp2_with fail
          refine (cloneBytes_any a1 n1 c1 zs w _ h1.bv (Nat.le_refl _) h1.nil s1).mono ?_
          rintro e w1 ⟨t1, rfl, o1, bl1⟩
          have tb := own_BV o1 h1.bv.lt
          have z1 := bl1.size
          have h2' := h2.mono bl1
          clear o1 h1 h2
          go_wp2_with fail
          refine (cloneBuf_any a2 n2 c2 L w1 h2' (by omega) HS.out.2.2).mono ?_
          rintro e w2 ⟨b1, vs, rfl, o2, _, bl2⟩
          have z2 := bl2.size
          have C := zzByteStrings_any t1 n1 n1 ⟨zs, fl⟩ b1 n2 vs w2 w1.heap.size w1.heap.size (Nat.le_refl _) z2 (tb.mono bl2) (by omega) (Nat.le_refl _) (by unfold maxLen; omega) o2 (by omega)
          unfold Zbd at C
          have CM := fun (w3 : World) (hb : Below w1.heap.size w2 w3) => modelBs_any t1 n1 n1 ⟨zs, fl⟩ w3 w1.heap.size (by have := hb.size; omega) ((tb.mono bl2).mono hb) s1 (Nat.le_refl _)
          unfold Mbd at CM
          obtain ⟨N, hN⟩ : ∃ N, N = (arrS ⟨zs, fl⟩).1 := ⟨_, rfl⟩
          obtain ⟨T, hT⟩ : ∃ T, T = bsS ⟨zs, fl⟩ := ⟨_, rfl⟩
          have hNle : N ≤ 1048576 := by rw [hN]; exact Nat.le_trans (arrS_le _) (by show zs.length ≤ _; rw [tb.len]; exact s1)
          have hTl : ∀ j, j < N → (T.1.getD j []).length ≤ 1048576 := by
            intro j hj
            rw [hT]
            rw [hN] at hj
            exact Nat.le_trans (runS_item _ hj) (Nat.le_trans (arrS_shrinks _) (by show zs.length ≤ _; rw [tb.len]; exact s1))
          have HMX := hid hTl
          clear hTl
          rw [← hN, ← hT] at C CM
          obtain ⟨F, hF⟩ : ∃ F, F = T.2.fl := ⟨_, rfl⟩
          rw [← hF] at C CM
          simp only at C CM
          have HC := hid (C)
          have HCM := hid (CM)
          clear C CM hN hT hF o2 h2' HS
          go_wp2_with fail
          refine HC.out.mono ?_
          rintro e w3 ⟨ra, rc, a', n', c', rfl, rowO, bvO, bl3⟩
          go_wp2_with fail
          refine (HCM.out w3 bl3).mono ?_
          rintro e w4 ⟨ra2, rc2, p, rfl, hp, hdrop, rowM, bl4⟩
          have z3 := bl3.size
          have rowO4 := rowO.mono bl4 (bl4.mono (by omega))
          have bvO4 := bvO.mono (bl4.mono (by omega))
          have tb4 := (((tb.mono bl2).mono bl3).mono (bl4.mono (by omega)))
          have BEL : Below w.heap.size w w4 := ((bl1.trans (bl2.mono z1)).trans (bl3.mono z1)).trans (bl4.mono (by omega))
          have hn' : n' = n1 - p := by rw [← bvO.len, ← hdrop, List.length_drop, tb.len]
          subst hn'
          rw [← hdrop] at bvO4
          rcases (show (n1 = p ∧ BV w1.heap.size w4 t1 (n1 - p) (zs.drop p)) ∨ (¬ n1 = p ∧ BV w1.heap.size w4 (t1.map (·.add p)) (n1 - p) (zs.drop p)) by
            by_cases h : n1 = p
            · exact .inl ⟨h, tb4.dropIf (m := p) (c := n1) (Nat.le_refl _) (fun h' => absurd h h')⟩
            · exact .inr ⟨h, tb4.dropIf (m := p) (c := n1) (Nat.le_refl _) (fun _ => rfl)⟩) with ⟨hpn, gd⟩ | ⟨hpn, gd⟩
          all_goals
            have hpi : (p : Int) ≤ (n1 : Int) := by omega
            have RW := hid (And.intro rowO4 rowM)
            have HB := hid BEL
            clear HC HCM rowO bvO rowM rowO4 bl1 bl2 bl3 bl4 tb tb4 hdrop BEL
          · have e0 : n1 - p = 0 := by omega
            rw [e0] at gd bvO4
            cases F
            all_goals
              go_wp2_with fail
              refine (sameBytes_same a' t1 0 _ _ (zs.drop p) w4 _ _ bvO4 gd (by unfold maxLen; omega)).mono ?_
              rintro e w5 ⟨rfl, q5, rfl⟩
              go_wp2
              go_loopw [15] (fun i wr => ∃ k q : Nat, k ≤ N ∧ i = .int .i64 k ∧ wr = w4.drewN q) (fun i _ => N - (intOf i).toNat)
              case atStart => exact ⟨0, _, Nat.zero_le _, rfl, rfl⟩
              case round =>
                obtain ⟨k, q, hk, rfl, hwr⟩ := hrel
                have HW := hid hwr
                by_cases hlt : k < N
                · have hlti : (k : Int) < (N : Int) := by omega
                  obtain ⟨b, off, b', off', ai, ci, aj, cj, m, rfl, rfl, hc1, hc2, hv1, hv2⟩ := RW.out.1.two RW.out.2 hlt
                  have hm2 : m ≤ maxLen := by have := HMX.out k hlt; rw [hv1.len] at this; unfold maxLen; omega
                  have hd1 : wr.cell? ⟨b, off + k, none⟩ = some (.slice ai m ci) := by rw [hwr]; exact hc1
                  have hd2 : wr.cell? ⟨b', off' + k, none⟩ = some (.slice aj m cj) := by rw [hwr]; exact hc2
                  have hw1 : BV w1.heap.size wr ai m (T.1.getD k []) := by rw [hwr]; exact hv1.drewN
                  have hw2 : BV w1.heap.size wr aj m (T.1.getD k []) := by rw [hwr]; exact hv2.drewN
                  clear RW hc1 hc2 hv1 hv2 hwr
                  go_wp2
                  go_quiet ((go_at_call 12; exact Calls.quiet_of (sameBytes_same ai aj m ci cj _ _ _ _ hw1.drewN hw2.drewN hm2)))
                  go_wp2
                  go_roundw
                  case rel => exact ⟨k + 1, _, by omega, by go_num, by rw [HW.out, World.drewN_drewN]⟩
                  case measure => simp [intOf]; omega
                · clear RW hwr
                  go_wp2
                  go_ret
                  exact ⟨rfl, by rw [HW.out]; exact below_drewN HB.out _⟩
          · cases F
            all_goals
              go_wp2_with fail
              refine (sameBytes_same a' _ (n1 - p) _ _ (zs.drop p) w4 _ _ bvO4 gd (by unfold maxLen; omega)).mono ?_
              rintro e w5 ⟨rfl, q5, rfl⟩
              go_wp2
              go_loopw [15] (fun i wr => ∃ k q : Nat, k ≤ N ∧ i = .int .i64 k ∧ wr = w4.drewN q) (fun i _ => N - (intOf i).toNat)
              case atStart => exact ⟨0, _, Nat.zero_le _, rfl, rfl⟩
              case round =>
                obtain ⟨k, q, hk, rfl, hwr⟩ := hrel
                have HW := hid hwr
                by_cases hlt : k < N
                · have hlti : (k : Int) < (N : Int) := by omega
                  obtain ⟨b, off, b', off', ai, ci, aj, cj, m, rfl, rfl, hc1, hc2, hv1, hv2⟩ := RW.out.1.two RW.out.2 hlt
                  have hm2 : m ≤ maxLen := by have := HMX.out k hlt; rw [hv1.len] at this; unfold maxLen; omega
                  have hd1 : wr.cell? ⟨b, off + k, none⟩ = some (.slice ai m ci) := by rw [hwr]; exact hc1
                  have hd2 : wr.cell? ⟨b', off' + k, none⟩ = some (.slice aj m cj) := by rw [hwr]; exact hc2
                  have hw1 : BV w1.heap.size wr ai m (T.1.getD k []) := by rw [hwr]; exact hv1.drewN
                  have hw2 : BV w1.heap.size wr aj m (T.1.getD k []) := by rw [hwr]; exact hv2.drewN
                  clear RW hc1 hc2 hv1 hv2 hwr
                  go_wp2
                  go_quiet ((go_at_call 12; exact Calls.quiet_of (sameBytes_same ai aj m ci cj _ _ _ _ hw1.drewN hw2.drewN hm2)))
                  go_wp2
                  go_roundw
                  case rel => exact ⟨k + 1, _, by omega, by go_num, by rw [HW.out, World.drewN_drewN]⟩
                  case measure => simp [intOf]; omega
                · clear RW hwr
                  go_wp2
                  go_ret
                  exact ⟨rfl, by rw [HW.out]; exact below_drewN HB.out _⟩
  · go_wp2
    go_ret
    exact ⟨rfl, Below.refl _ _⟩

end Go.Proofs.Qxb6600244a
