import Derived.Test.Qxb6600244aRtWalk
namespace Go.Proofs.Qxb6600244a
open Go.RowKit

set_option maxRecDepth 100000 in
set_option maxHeartbeats 8000000 in
theorem rt_walkW (a1 : Option Addr) (n1 c1 : Nat) (L : List (List Nat)) (a2 : Option Addr) (n2 c2 : Nat) (zs : List Nat) (w : World) (h1 : RowA w a1 n1 c1 L) (h2 : ArgB w a2 n2 c2 zs) :
    Calls Try.prog 6 #[.slice a1 n1 c1, .slice a2 n2 c2, .bool true] w fun e w' => e = .returned (.bool true) ∧ Below w.heap.size w w' := by
  go_enter Try.func6, Try.ntmps6
  go_wp2_with fail
  refine (zzBytes21 a1 a2 n1 c1 n2 c2 L true w h1 (Nat.le_trans h2.le h2.max)).mono ?_
  rintro e w' ⟨ht, hw⟩
  obtain rfl := hw.symm
  rcases ht with rfl | ⟨rfl, hsm⟩
  · go_wp2
    go_ret
    exact ⟨rfl, Below.refl _ _⟩
  have s2 : n2 ≤ 1048576 := hsm.1
  have HS := hid hsm
  have HLen := hid h1.len
  clear hsm
  by_cases l2 : n1 ≤ 65536
  · go_wp2
    go_loop [7, 8] (fun t i => ∃ (k S : Nat), k ≤ n1 ∧ i = .int .i64 k ∧ t = .int .i64 (S : Int) ∧ S ≤ 4194304 ∧ Hid (S = n2 + 24 * n1 + sumL L k)) (fun _ i => n1 - (intOf i).toNat)
    case atStart => exact ⟨0, n2 + 24 * n1, Nat.zero_le _, rfl, by go_num, by omega, by rw [sumL_zero]; rfl⟩
    case round =>
      obtain ⟨k, S, hk, rfl, rfl, hS, HSum⟩ := hrel
      by_cases hlt : k < n1
      · obtain ⟨b, off, ai, ni, ci, rfl, hc, hli, _⟩ := h1.at hlt
        have hni : ni ≤ 1048576 := by rw [← hli]; exact HS.out.2.2 k hlt
        have HN : Hid (S + ni = n2 + 24 * n1 + sumL L (k + 1)) := by
          show S + ni = n2 + 24 * n1 + sumL L (k + 1)
          rw [sumL_succ (by rw [HLen.out]; exact hlt), hli, HSum.out]
          omega
        clear h1 hli HS h2
        go_wp2
        all_goals first
          | (go_ret; exact ⟨rfl, Below.refl _ _⟩)
          | (go_round
             case rel => exact ⟨k + 1, S + ni, by omega, by go_num, by go_num, by omega, HN⟩
             case measure => simp [intOf]; omega)
      · obtain rfl : k = n1 := by omega
        by_cases hr : 1048576 < S
        · go_wp2
          go_ret
          exact ⟨rfl, Below.refl _ _⟩
        · have hsum : n2 + 24 * k + sumL L k ≤ 1048576 := by rw [← HSum.out]; omega
          have HSM := hid hsum
          clear hsum HSum
          have hL0 : ∀ x ∈ L, x.length < 18446744073709551616 := by
            intro x hx
            obtain ⟨i, hi, rfl⟩ := List.getElem_of_mem hx
            have := HS.out.2.2 i (by rw [← HLen.out]; exact hi)
            rw [List.getD, List.getElem?_eq_getElem hi] at this
            exact Nat.lt_of_le_of_lt this (by omega)
          have hbs := bsS_enc true L zs hL0 (by rw [HLen.out]; omega)
          rw [HLen.out] at hbs
          have HBS := hid hbs
          have hElt : ∀ z ∈ encA true L ++ zs, z < 256 := by
            intro z hz
            rcases List.mem_append.1 hz with h | h
            · exact encA_lt hL0 h1.lt z h
            · exact h2.bv.lt z h
          have HEL := hid hElt
          clear hbs hL0 hElt hlt
          go_wp2_with fail
          refine (cloneBuf_any a1 k c1 L w h1 (by omega) HS.out.2.2).mono ?_
          rintro e w1 ⟨b1, vs, rfl, o1, its1, bl1⟩
          have z1 := bl1.size
          have rc1 := RowC.of o1 its1 HLen.out
          have h2' : BV w.heap.size w1 a2 n2 zs := h2.bv.mono bl1
          go_wp2_with fail
          refine (cloneBytes_any a2 n2 c2 zs w1 w.heap.size h2' z1 h2.nil s2).mono ?_
          rintro e w2 ⟨t2, rfl, o2, bl2⟩
          have z2 := bl2.size
          have tb := own_BV o2 h2.bv.lt
          have tl := own_len o2
          have rc2 := (rc1.mono bl2).up z2
          have bl02 := bl1.trans (bl2.mono z1)
          obtain ⟨B, hB⟩ : ∃ B, B = w2.heap.size := ⟨_, rfl⟩
          rw [← hB] at tb rc2
          have hB1 : B ≤ w2.heap.size := by omega
          have hB2 : w2.heap.size ≤ B := by omega
          clear hB
          have HTL := hid tl
          have HL1 := hid (HS.out.2.2)
          clear o1 its1 rc1 h2' o2 h1 h2 bl1 bl2 tl
          obtain ⟨f0, hf0⟩ : ∃ f0, f0 = formW true k := ⟨_, rfl⟩
          have hf04 : f0 ≤ 4 := by rw [hf0]; exact formW_le _ _
          have hf0z : f0 = 0 → k < 24 := fun h => formW_zero (wide := true) (by rw [← hf0]; exact h)
          have C0 := appendHead_any none 0 0 128 k f0 [] w2 B (by omega) (World.ownsRow_nil _ _ _ _) (by omega) (by omega) (by omega) hf04 (by omega) hf0z
          have hE0 : [] ++ encH 128 k f0 = encK true L 0 := by rw [encK_zero, HLen.out, hf0]; rfl
          rw [hE0] at C0
          obtain ⟨m0, hm0⟩ : ∃ m0, m0 = 0 + 1 + formSz f0 := ⟨_, rfl⟩
          rw [← hm0] at C0
          have HC0 := hid C0
          obtain rfl : f0 = 4 := by rw [hf0]; rfl
          clear C0 hE0 hm0 hf0 hf0z hf04
          go_wp2_with (go_at_call 22; refine (shortF_any _ _).mono ?_; rintro e w' ⟨rfl, hw⟩; obtain rfl := hw.symm)
          refine HC0.out.mono ?_
          rintro e w3 ⟨e3, c3, rfl, o3, bl3⟩
          have hrel0 : RelE B w2 true L 0 (.slice e3 m0 c3) w3 := ⟨e3, m0, c3, rfl, o3, bl3⟩
          have HR0 := hid hrel0
          clear o3 bl3 hrel0 HC0
          go_wp2
          go_loopw [10, 11] (fun v i wr => ∃ j : Nat, j ≤ k ∧ i = .int .i64 j ∧ RelE B w2 true L j v wr) (fun _ i _ => k - (intOf i).toNat)
          case atStart => exact ⟨0, Nat.zero_le _, rfl, HR0.out⟩
          case round =>
            clear HR0
            obtain ⟨j, hj, rfl, ae, m, ce, rfl, hown, hbl⟩ := hrel
            have hzr := hbl.size
            have hml : m ≤ 9 + 9 * j + sumL L j := by rw [← own_u8 hown]; exact encK_length _ _ (by rw [HLen.out]; exact hj)
            have hsm2 : sumL L j ≤ sumL L k := sumL_mono L hj (by rw [HLen.out]; exact Nat.le_refl _)
            have hmb : m ≤ 2097152 - n2 := by have := HSM.out; omega
            clear hml hsm2
            by_cases hlt : j < k
            · have hlti : (j : Int) < (k : Int) := by omega
              obtain ⟨b, off, ai, ni, hbe, hbB, hc, hain, hvi⟩ := (rc2.mono hbl).cell j hlt
              subst hbe
              have hni : ni ≤ 1048576 := by rw [← hvi.len]; exact HL1.out j hlt
              obtain ⟨f, hf⟩ : ∃ f, f = formW true ni := ⟨_, rfl⟩
              have hf4 : f ≤ 4 := by rw [hf]; exact formW_le _ _
              have hfz : f = 0 → ni < 24 := fun h => formW_zero (wide := true) (by rw [← hf]; exact h)
              have C := appendHead_any ae m ce 64 ni f (encK true L j) wr B (by omega) hown (by omega) (by omega) (by omega) hf4 (by omega) hfz
              obtain ⟨it, hit⟩ : ∃ it, it = L.getD j [] := ⟨_, rfl⟩
              have hEn : encK true L j ++ (encH 64 ni f ++ it) = encK true L (j + 1) := by
                have := encK_succ (wide := true) (L := L) (k := j) (by rw [HLen.out]; exact hlt)
                rw [hvi.len, ← hf, List.append_assoc, ← hit] at this
                exact this
              rw [← hit] at hvi
              have HIT := hid hit
              clear hit
              obtain ⟨X, hX⟩ : ∃ X, X = encH 64 ni f := ⟨_, rfl⟩
              rw [← hX] at hEn C
              clear hX
              have hS8 := formSz_le f
              obtain ⟨m1, hm1⟩ : ∃ m1, m1 = m + 1 + formSz f := ⟨_, rfl⟩
              rw [← hm1] at C
              have hm1b : m1 ≤ 2097152 + 9 := by omega
              have C2 : Calls Try.prog 15 #[.slice ae m ce, .int .u8 64, .int .u64 (ni : Int), .int .u8 (f : Int)] wr fun e w' => ∃ a' c', e = .returned (.slice a' m1 c') ∧ w'.cell? ⟨b, off + j, none⟩ = some (.slice ai ni ni) ∧
                  Hid (w'.ownsRow B 5 1 (.slice a' m1 c') m1 (u8s (encK true L j ++ X)) ∧ Below B w2 w' ∧ BV B w' ai ni it ∧ B ≤ w'.heap.size) := by
                refine C.mono ?_
                rintro e w' ⟨a', c', rfl, ho, hb⟩
                have := hb.size
                exact ⟨a', c', rfl, (hb.cell (p := ⟨b, off + j, none⟩) hbB).trans hc, ho, hbl.trans hb, hvi.mono hb, by omega⟩
              have HC2 := hid C2
              have HEn := hid hEn
              obtain rfl : f = 4 := by rw [hf]; rfl
              clear C C2 hEn hm1 hf hfz hf4 hown hbl hS8
              go_wp2_with (go_at_call 22; refine (shortF_any _ _).mono ?_; rintro e w' ⟨rfl, hw⟩; obtain rfl := hw.symm)
              refine HC2.out.mono ?_
              rintro e w4 ⟨a4, c4, rfl, hc4, HH⟩
              go_wp2_with (at_builtin; refine wpList_append_bytes rfl (.tmp 88) (.tmp 92) rfl B a4 m1 c4 (encK true L j ++ X) rfl HH.out.1 B ai ni ni it rfl HH.out.2.2.1 (fun h => ⟨hain h, hain h⟩) (by omega) (by omega) HH.out.2.2.2 ?_)
              intro a5 c5 w5 o5 hg5
              have R : RelE B w2 true L (j + 1) (.slice a5 (m1 + ni) c5) w5 := by
                have ho5 : w5.ownsRow B 5 1 (.slice a5 (m1 + ni) c5) (m1 + ni) (u8s (encK true L (j + 1))) := by
                  rw [← HEn.out]
                  first | exact o5 | (rw [← List.append_assoc]; exact o5)
                exact ⟨a5, m1 + ni, c5, rfl, ho5, HH.out.2.1.grown hg5 HH.out.2.2.2 (fun k hk => (HH.out.1.lt k hk).1)⟩
              have HR := hid R
              clear R o5 hg5 HH hc4 HEn HC2 hvi hc
              go_wp2
              go_roundw
              case rel => exact ⟨j + 1, by omega, by go_num, HR.out⟩
              case measure => simp [intOf]; omega
            · obtain rfl : j = k := by omega
              have tbr := tb.mono hbl
              have rcr := rc2.mono hbl
              have hEf : encK true L j = encA true L := by rw [← encK_full, HLen.out]
              rw [hEf] at hown
              have blw := bl02.trans (hbl.mono (by omega))
              have hzw2 : w.heap.size ≤ B := by have := bl02.size; omega
              clear hEf tb rc2 hbl hlt
              go_wp2_with (at_builtin; refine wpList_append_bytes rfl (.tmp 94) (.tmp 95) rfl B ae m ce (encA true L) rfl hown B t2 n2 n2 zs rfl tbr (fun h => ⟨(HTL.out.2 h).1, (HTL.out.2 h).2⟩) (by omega) (by omega) (by omega) ?_)
              intro a6 c6 w6 o6 hg6
              have bl6 : Below B wr w6 := (Below.refl B wr).grown hg6 (by omega) (fun k hk => (hown.lt k hk).1)
              have eb := own_BV o6 HEL.out
              have el := own_len o6
              have em := own_max o6
              have z6 := bl6.size
              have C := zzByteStrings_any a6 (m + n2) c6 ⟨encA true L ++ zs, false⟩ none 0 [] w6 w6.heap.size w6.heap.size (Nat.le_refl _) (Nat.le_refl _) eb (by omega) el.1 em (World.ownsRow_nil _ _ _ _) (by omega)
              unfold Zbd at C
              rw [HBS.out.1, HBS.out.2] at C
              simp only at C
              have HC := hid C
              have rc6 := rcr.mono bl6
              have tb6 := tbr.mono bl6
              have bl06 := blw.trans (bl6.mono hzw2)
              clear C o6 hg6 bl6 eb el em hown rcr tbr blw
              go_wp2_with fail
              refine HC.out.mono ?_
              rintro e w7 ⟨ra, rc, a', n', c', rfl, rowO, bvO, bl7⟩
              have rc7 := rc6.mono (bl7.mono (by omega))
              have tb7 := tb6.mono (bl7.mono (by omega))
              have bl07 := bl06.trans (bl7.mono (by omega))
              have hn' : n' = n2 := by rw [← bvO.len, tb7.len]
              subst hn'
              have RW := hid (And.intro rowO rc7)
              have HB := hid bl07
              clear rowO rc7 bl07 bl06 rc6 tb6 bl7 HC
              go_wp2_with fail
              refine (sameBytes_same a' t2 n' _ _ zs w7 _ _ bvO tb7 (by unfold maxLen; omega)).mono ?_
              rintro e w8 ⟨rfl, q8, rfl⟩
              go_wp2
              go_loopw [16] (fun i wr => ∃ p q : Nat, p ≤ j ∧ i = .int .i64 p ∧ wr = w7.drewN q) (fun i _ => j - (intOf i).toNat)
              case atStart => exact ⟨0, _, Nat.zero_le _, rfl, rfl⟩
              case round =>
                obtain ⟨p, q, hp, rfl, hwr⟩ := hrel
                have HW := hid hwr
                by_cases hlt : p < j
                · have hlti : (p : Int) < (j : Int) := by omega
                  obtain ⟨b, off, b', off', ai, ci, aj, mm, rfl, rfl, hc1, hc2, hv1, hv2⟩ := rowVC RW.out.1 RW.out.2 hlt
                  have hm2 : mm ≤ maxLen := by have := HL1.out p hlt; rw [hv1.len] at this; unfold maxLen; omega
                  have hd1 : wr.cell? ⟨b, off + p, none⟩ = some (.slice ai mm ci) := by rw [hwr]; exact hc1
                  have hd2 : wr.cell? ⟨b', off' + p, none⟩ = some (.slice aj mm mm) := by rw [hwr]; exact hc2
                  have hw1 : BV w6.heap.size wr ai mm (L.getD p []) := by rw [hwr]; exact hv1.drewN
                  have hw2 : BV B wr aj mm (L.getD p []) := by rw [hwr]; exact hv2.drewN
                  clear RW hc1 hc2 hv1 hv2 hwr bvO tb7
                  go_wp2
                  go_quiet ((go_at_call 12; exact Calls.quiet_of (sameBytes_same ai aj mm ci mm _ _ _ _ hw1.drewN hw2.drewN hm2)))
                  go_wp2
                  go_roundw
                  case rel => exact ⟨p + 1, _, by omega, by go_num, by rw [HW.out, World.drewN_drewN]⟩
                  case measure => simp [intOf]; omega
                · clear RW hwr bvO tb7
                  go_wp2
                  go_ret
                  exact ⟨rfl, by rw [HW.out]; exact below_drewN HB.out _⟩
  · go_wp2
    go_ret
    exact ⟨rfl, Below.refl _ _⟩

end Go.Proofs.Qxb6600244a
