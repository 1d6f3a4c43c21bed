import Derived.Test.Qxb6600244aHeadLaw
namespace Go.Proofs.Qxb6600244a
open Go.RowKit

/-- What the walk is told of a slice of bytes that came in. -/
structure ArgB (w : World) (a : Option Addr) (n c : Nat) (zs : List Nat) : Prop where
  bv : BV w.heap.size w a n zs
  nil : a = none → n = 0 ∧ c = 0
  le : n ≤ c
  max : c ≤ maxLen

theorem own_max {w : World} {base e n c : Nat} {a : Option Addr} {xs : List Value} (h : w.ownsRow base e 1 (.slice a n c) n xs) : c ≤ maxLen := by
  rcases h.2 with ⟨hv, _⟩ | ⟨g, cap, cur, hv, _, _, _, hm, _⟩
  · simp at hv
    have := hv.2.2
    unfold maxLen
    omega
  · simp at hv
    rw [hv.2]
    exact hm

set_option maxHeartbeats 4000000 in
theorem headLaw_walk (k N f o : Nat) (a : Option Addr) (n c : Nat) (zs : List Nat) (w : World) (hk : k < 256) (hN : N < 18446744073709551616) (hf : f < 256) (ho : o < 256) (hA : ArgB w a n c zs) :
    Calls Try.prog 4 #[.int .u8 (k : Int), .int .u64 (N : Int), .int .u8 (f : Int), .int .u8 (o : Int), .slice a n c] w fun e w' => e = .returned (.bool true) ∧ Below w.heap.size w w' := by
  have hmx := hA.max
  have hle := hA.le
  unfold maxLen at hmx
  by_cases hn : n ≤ 1048576
  · by_cases hk7 : k ≤ 7
    · by_cases hf4 : f ≤ 4
      · by_cases hfit : fitsB N f = true
        · obtain ⟨f0, f1⟩ := fits_spec hf4 hN hfit
          obtain ⟨m, hm⟩ : ∃ m, m = k * 32 := ⟨_, rfl⟩
          have hmi : (k : Int) * 32 = (m : Int) := by omega
          have hm32 : m % 32 = 0 := by omega
          have hm256 : m < 256 := by omega
          have hd1 : hd m (encH m N f ++ zs) = some (N, 1 + formSz f) := by rw [hm]; exact hd_enc hf4 f0 f1
          have hlen := hA.bv.len
          have hEl : (encH m N f).length = 1 + formSz f := encH_length _ _ _
          have hElt : ∀ z ∈ encH m N f ++ zs, z < 256 := by
            intro z hz
            rcases List.mem_append.1 hz with h | h
            · exact encH_lt (by have := infoOf_lt hf4 f0; omega) z h
            · exact hA.bv.lt z h
          have hS8 := formSz_le f
          obtain ⟨L, hL⟩ : ∃ L, L = 1 + formSz f := ⟨_, rfl⟩
          obtain ⟨E, hE⟩ : ∃ E, E = encH m N f := ⟨_, rfl⟩
          have ho' : ¬ o = k → hd (o * 32) (E ++ zs) = none := fun h => by rw [hE, hm]; exact hd_other hf4 f0 h
          have HA : Hid (∀ w : World, Calls Try.prog 15 #[.slice none 0 0, .int .u8 (m : Int), .int .u64 (N : Int), .int .u8 (f : Int)] w fun e w' => ∃ a' c', e = .returned (.slice a' L c') ∧ w'.ownsRow w.heap.size 5 1 (.slice a' L c') L (u8s E) ∧ Below w.heap.size w w') := by
            intro w
            have happ := appendHead_any none 0 0 m N f [] w w.heap.size (Nat.le_refl _) (World.ownsRow_nil _ _ _ _) (by omega) hm32 hm256 hf4 hN f0
            rw [← hE, show 0 + 1 + formSz f = L by omega] at happ
            exact happ
          rw [← hL] at hd1 hEl
          rw [← hE] at hd1 hEl hElt
          have HO : Hid (¬ o = k → hd (o * 32) (E ++ zs) = none) := ho'
          have HD : Hid (hd m (E ++ zs) = some (N, L)) := hd1
          have HEl : Hid (E.length = L) := hEl
          have hL9 : L ≤ 9 := by omega
          clear hm hL hE ho' hd1 f0 f1 hEl hS8
          go_enter Try.func4, Try.ntmps4
          go_wp2_with (first | (go_at_call 14; refine (fits_any N f hf4 _).mono ?_; rintro e w' ⟨rfl, hw⟩; obtain rfl := hw.symm) | (go_at_call 13; go_in))
          refine (cloneBytes_any a n c zs w _ hA.bv (Nat.le_refl _) hA.nil hn).mono ?_
          rintro e w1 ⟨t1, rfl, o1, bl1⟩
          have tb := own_BV o1 hA.bv.lt
          have tl := own_len o1
          have z1 := bl1.size
          clear o1 hA hlen hmx hle
          go_wp2_with fail
          refine (HA.out w1).mono ?_
          rintro e w2 ⟨e1, ec, rfl, o2, bl2⟩
          have z2 := bl2.size
          have tb2 := tb.mono bl2
          go_wp2_with (at_builtin; refine wpList_append_bytes rfl (.tmp 45) (.tmp 46) rfl w1.heap.size e1 L ec E rfl o2 w1.heap.size t1 n n zs rfl tb2 (fun h => ⟨(tl.2 h).1, (tl.2 h).2⟩) (by omega) (by omega) z2 ?_)
          intro a3 c3 w3 o3 hg3
          have z3 := hg3.size
          have bl3 : Below w1.heap.size w1 w3 := bl2.grown hg3 z2 (fun k hk => (o2.lt k hk).1)
          have tb3 := tb.mono bl3
          have eb := own_BV o3 hElt
          have el := own_len o3
          have em := own_max o3
          have bl03 := bl1.trans (bl3.mono z1)
          clear o2 o3 hg3 bl2 bl3 tb tb2 bl1 hElt
          go_wp2_with fail
          refine (zzHead_some m (L + n) c3 N L a3 (E ++ zs) w3 w3.heap.size (Nat.le_refl _) eb HD.out el.1 em).mono ?_
          rintro e w4 ⟨r1, rfl, hr, bl4⟩
          have hr' : BV w3.heap.size w4 r1 n zs := by
            rw [Nat.add_sub_cancel_left, List.drop_left' HEl.out] at hr
            exact hr
          have tb4 := tb3.mono (bl4.mono (by omega))
          have eb4 := eb.mono bl4
          have bl04 := bl03.trans (bl4.mono (by omega))
          have z4 := bl4.size
          clear hr tb3 eb bl4 bl03
          go_wp2_with fail
          refine (sameBytes_same r1 t1 n _ _ zs w4 _ _ hr' tb4 (by unfold maxLen; omega)).mono ?_
          rintro e w5 ⟨rfl, q, rfl⟩
          by_cases ho7 : o ≤ 7
          · by_cases hok : o = k
            · subst hok
              go_wp2
              go_ret
              exact ⟨rfl, below_drewN bl04 _⟩
            · have hok' : ¬ (o : Int) = (k : Int) := by omega
              obtain ⟨m2, hm2⟩ : ∃ m2, m2 = o * 32 := ⟨_, rfl⟩
              have hmi2 : (o : Int) * 32 = (m2 : Int) := by omega
              have hn2 := HO.out hok
              rw [← hm2] at hn2
              have HN : Hid (hd m2 (E ++ zs) = none) := hn2
              clear hm2 hn2
              go_wp2_with fail
              refine (zzHead_none m2 (L + n) c3 a3 (E ++ zs) (w4.drewN q) w3.heap.size z4 eb4.drewN HN.out).mono ?_
              rintro e w6 ⟨rfl, bl6⟩
              have eb6 := eb4.drewN.mono (bl6.mono z4)
              go_wp2_with fail
              refine (sameBytes_same a3 a3 (L + n) _ _ (E ++ zs) w6 _ _ eb6 eb6 (by unfold maxLen; omega)).mono ?_
              rintro e w7 ⟨rfl, q2, rfl⟩
              go_wp2
              go_ret
              exact ⟨rfl, below_drewN ((below_drewN bl04 q).trans (bl6.mono (by simp; omega))) _⟩
          · go_wp2
            go_ret
            exact ⟨rfl, below_drewN bl04 _⟩
        · have hfit' : fitsB N f = false := by simpa using hfit
          go_enter Try.func4, Try.ntmps4
          go_wp2_with (first | (go_at_call 14; refine (fits_any N f hf4 _).mono ?_; rintro e w' ⟨rfl, hw⟩; obtain rfl := hw.symm) | (go_at_call 13; go_in))
          go_ret
          exact ⟨rfl, Below.refl _ _⟩
      · go_enter Try.func4, Try.ntmps4
        go_wp2
        go_ret
        exact ⟨rfl, Below.refl _ _⟩
    · go_enter Try.func4, Try.ntmps4
      go_wp2
      go_ret
      exact ⟨rfl, Below.refl _ _⟩
  · go_enter Try.func4, Try.ntmps4
    go_wp2
    go_ret
    exact ⟨rfl, Below.refl _ _⟩

end Go.Proofs.Qxb6600244a
