import Derived.Test.Qxb6600168aTakeWalk
namespace Go.Proofs.Qxb6600168a
open Go.RowKit

set_option maxHeartbeats 4000000 in
theorem run_walkE (a1 a3 : Option Addr) (n1 c1 c3 : Nat) (s1 s3 : List ByteArray) (w : World) (h1 : Arg w a1 n1 c1 s1) (h3 : Arg w a3 0 c3 s3) :
    Calls Try.prog 10 #[.slice a1 n1 c1, .slice a3 0 c3, .bool true] w fun e w' => e = .returned (.bool true) ∧ Below w.heap.size w w' := by
  go_enter Try.func10, Try.ntmps10
  go_wp2_with fail
  refine (zzBytes28 a1 a3 n1 c1 0 c3 s1 s3 true w w.heap.size h1.sv h3.sv h1.max h3.max).mono ?_
  rintro e w' ⟨ht, hw⟩
  obtain rfl := hw.symm
  rcases ht with rfl | ⟨rfl, hb⟩
  · go_wp2
    go_ret
    exact ⟨rfl, Below.refl _ _⟩
  have b1 : n1 ≤ 1048576 := hb n1 (by simp)
  have b3 : 0 ≤ 1048576 := hb (0) (by simp)
  clear hb
  go_wp2_with fail
  refine (addStrs_any 0 a1 n1 c1 s1 _ _ h1.sv h1.max).mono ?_
  rintro e w' ⟨⟨t1, rfl⟩, hw⟩
  obtain rfl := hw.symm
  go_wp2_with fail
  refine (addStrs_any t1 a3 _ c3 s3 _ _ h3.sv h3.max).mono ?_
  rintro e w' ⟨⟨t3, rfl⟩, hw⟩
  obtain rfl := hw.symm
  by_cases l3 : 1048576 < t3
  · go_wp2
    go_ret
    exact ⟨rfl, Below.refl _ _⟩
  go_wp2
  go_ret
  exact ⟨rfl, Below.refl _ _⟩

set_option maxHeartbeats 4000000 in
theorem run_walkD0 (a1 a3 : Option Addr) (n1 c1 c3 : Nat) (s1 s3 : List ByteArray) (w : World) (h1 : Arg w a1 n1 c1 s1) (h3 : Arg w a3 1 c3 s3) :
    Calls Try.prog 10 #[.slice a1 n1 c1, .slice a3 1 c3, .bool true] w fun e w' => e = .returned (.bool true) ∧ Below w.heap.size w w' := by
  go_enter Try.func10, Try.ntmps10
  go_wp2_with fail
  refine (zzBytes28 a1 a3 n1 c1 1 c3 s1 s3 true w w.heap.size h1.sv h3.sv h1.max h3.max).mono ?_
  rintro e w' ⟨ht, hw⟩
  obtain rfl := hw.symm
  rcases ht with rfl | ⟨rfl, hb⟩
  · go_wp2
    go_ret
    exact ⟨rfl, Below.refl _ _⟩
  have b1 : n1 ≤ 1048576 := hb n1 (by simp)
  have b3 : 1 ≤ 1048576 := hb (1) (by simp)
  clear hb
  go_wp2_with fail
  refine (addStrs_any 0 a1 n1 c1 s1 _ _ h1.sv h1.max).mono ?_
  rintro e w' ⟨⟨t1, rfl⟩, hw⟩
  obtain rfl := hw.symm
  go_wp2_with fail
  refine (addStrs_any t1 a3 _ c3 s3 _ _ h3.sv h3.max).mono ?_
  rintro e w' ⟨⟨t3, rfl⟩, hw⟩
  obtain rfl := hw.symm
  by_cases l3 : 1048576 < t3
  · go_wp2
    go_ret
    exact ⟨rfl, Below.refl _ _⟩
  go_wp2_with fail
  refine (cloneStrs_any a1 n1 c1 s1 w w.heap.size h1.sv (Nat.le_refl _) h1.nil b1).mono ?_
  rintro e w1 ⟨p1, rfl, o1, bl1⟩
  have z1 := bl1.size
  go_wp2_with fail
  refine (cloneStrs_any a3 _ c3 s3 w1 w.heap.size (h3.sv.mono bl1) z1 h3.nil b3).mono ?_
  rintro e w3 ⟨r1, rfl, o3, bl3⟩
  have z3 := bl3.size
  have sp : SV w3.heap.size w3 p1 n1 s1 := ((own_SV o1).mono bl3).up (by omega)
  have sr : SV w3.heap.size w3 r1 (1) s3 := own_SV o3
  have lp := own_len o1
  have lr := own_len o3
  have bl03 : Below w.heap.size w w3 := bl1.trans (bl3.mono z1)
  clear o1 o3 bl1 bl3
  go_wp2_with fail
  refine (cloneStrs_any p1 n1 n1 s1 w3 w3.heap.size sp (Nat.le_refl _) lp.2 b1).mono ?_
  rintro e w4 ⟨p2, rfl, o4, bl4⟩
  have z4 := bl4.size
  go_wp2_with fail
  obtain ⟨tk, htk⟩ : ∃ tk, tk = taken ⟨#[114, 117, 110]⟩ (rpOf true s3) := ⟨_, rfl⟩
  obtain ⟨T, hT⟩ : ∃ T, T = tk.length := ⟨_, rfl⟩
  have C := zzPositional_any ⟨#[114, 117, 110]⟩ p2 none r1 n1 n1 0 0 (1) (1) s1 [] s3 true w4 w3.heap.size w4.heap.size z4 (Nat.le_refl _) o4 (World.ownsRow_nil _ _ _ _) (fun k hk => (o4.lt k hk).2) (sr.mono bl4) (fun h => ⟨by first | rfl | exact (lr.2 h).1, by first | rfl | exact (lr.2 h).2⟩) (by omega) b3 b1 lr.1 h3.str (fun _ => by omega)
  rw [← htk, ← hT] at C
  refine C.mono ?_
  clear C
  rintro e w6 ⟨pa, pc, aa, ac, rfl, s6p, s6a, l6p, l6a, bl6⟩
  have bl36 := bl4.trans bl6
  have fp := sp.mono bl36
  have fr := sr.mono bl36
  have BEL : Below w.heap.size w w6 := bl03.trans (bl36.mono (by omega))
  have gp : SV w6.heap.size w6 pa n1 s1 := by have := s6p.take (m := n1) (by omega); rwa [List.take_left' h1.sv.1] at this
  have gt : ∀ x, (¬ pc = n1 → x = pa.map (·.add n1)) → SV w6.heap.size w6 x T tk := fun x hx => by have := s6p.dropIf l6p hx; rwa [List.drop_left' h1.sv.1, Nat.add_sub_cancel_left] at this
  have hTr : T = runN (s3.drop 1) := by rw [hT, htk]; exact takenRun_len _
  have hTt : tk = (s3.drop 1).take T := by rw [hTr, htk]; exact takenRun _
  have hst := h3.str
  clear o4 bl4 bl6 bl36 sp sr s6a bl03 hT htk h1 h3
  obtain rfl : T = 0 := by rw [hTr]; exact runN_zero (by simp [fr.1])
  obtain rfl : tk = [] := List.eq_nil_of_length_eq_zero (gt _ (fun _ => rfl)).1
  clear hTr hTt
  rcases (show (pc = n1 ∧ SV w6.heap.size w6 pa 0 []) ∨ (¬ pc = n1 ∧ SV w6.heap.size w6 (pa.map (·.add n1)) 0 []) by
    by_cases h : pc = n1
    · exact .inl ⟨h, gt _ (fun h' => absurd h h')⟩
    · exact .inr ⟨h, gt _ (fun _ => rfl)⟩) with ⟨hpc, gt'⟩ | ⟨hpc, gt'⟩
  all_goals
    clear gt s6p
    go_wp2_with fail
    refine (sameStrs_same pa p1 n1 _ _ s1 _ _ _ gp fp (by unfold maxLen; omega)).mono ?_
    rintro e w7 ⟨rfl, k9, rfl⟩
    go_wp2_with fail
    refine (sameStrs_same _ _ 0 _ _ [] _ _ _ gt'.drewN (SV.nil 0 _ _) (by unfold maxLen; omega)).mono ?_
    rintro e w7 ⟨rfl, k10, rfl⟩
    go_wp2
    go_ret
    exact ⟨rfl, below_drewN BEL _⟩

set_option maxHeartbeats 4000000 in
theorem run_walkD1 (a1 a3 : Option Addr) (n1 c1 N c3 : Nat) (s1 s3 : List ByteArray) (w : World) (h1 : Arg w a1 n1 c1 s1) (h3 : Arg w a3 (N + 1) c3 s3) (hN : 0 < N) :
    Calls Try.prog 10 #[.slice a1 n1 c1, .slice a3 (N + 1) c3, .bool true] w fun e w' => e = .returned (.bool true) ∧ Below w.heap.size w w' := by
  go_enter Try.func10, Try.ntmps10
  go_wp2_with fail
  refine (zzBytes28 a1 a3 n1 c1 (N + 1) c3 s1 s3 true w w.heap.size h1.sv h3.sv h1.max h3.max).mono ?_
  rintro e w' ⟨ht, hw⟩
  obtain rfl := hw.symm
  rcases ht with rfl | ⟨rfl, hb⟩
  · go_wp2
    go_ret
    exact ⟨rfl, Below.refl _ _⟩
  have b1 : n1 ≤ 1048576 := hb n1 (by simp)
  have b3 : (N + 1) ≤ 1048576 := hb ((N + 1)) (by simp)
  clear hb
  go_wp2_with fail
  refine (addStrs_any 0 a1 n1 c1 s1 _ _ h1.sv h1.max).mono ?_
  rintro e w' ⟨⟨t1, rfl⟩, hw⟩
  obtain rfl := hw.symm
  go_wp2_with fail
  refine (addStrs_any t1 a3 _ c3 s3 _ _ h3.sv h3.max).mono ?_
  rintro e w' ⟨⟨t3, rfl⟩, hw⟩
  obtain rfl := hw.symm
  by_cases l3 : 1048576 < t3
  · go_wp2
    go_ret
    exact ⟨rfl, Below.refl _ _⟩
  go_wp2_with fail
  refine (cloneStrs_any a1 n1 c1 s1 w w.heap.size h1.sv (Nat.le_refl _) h1.nil b1).mono ?_
  rintro e w1 ⟨p1, rfl, o1, bl1⟩
  have z1 := bl1.size
  go_wp2_with fail
  refine (cloneStrs_any a3 _ c3 s3 w1 w.heap.size (h3.sv.mono bl1) z1 h3.nil b3).mono ?_
  rintro e w3 ⟨r1, rfl, o3, bl3⟩
  have z3 := bl3.size
  have sp : SV w3.heap.size w3 p1 n1 s1 := ((own_SV o1).mono bl3).up (by omega)
  have sr : SV w3.heap.size w3 r1 ((N + 1)) s3 := own_SV o3
  have lp := own_len o1
  have lr := own_len o3
  have bl03 : Below w.heap.size w w3 := bl1.trans (bl3.mono z1)
  clear o1 o3 bl1 bl3
  go_wp2_with fail
  refine (cloneStrs_any p1 n1 n1 s1 w3 w3.heap.size sp (Nat.le_refl _) lp.2 b1).mono ?_
  rintro e w4 ⟨p2, rfl, o4, bl4⟩
  have z4 := bl4.size
  go_wp2_with fail
  obtain ⟨tk, htk⟩ : ∃ tk, tk = taken ⟨#[114, 117, 110]⟩ (rpOf true s3) := ⟨_, rfl⟩
  obtain ⟨T, hT⟩ : ∃ T, T = tk.length := ⟨_, rfl⟩
  have C := zzPositional_any ⟨#[114, 117, 110]⟩ p2 none r1 n1 n1 0 0 ((N + 1)) ((N + 1)) s1 [] s3 true w4 w3.heap.size w4.heap.size z4 (Nat.le_refl _) o4 (World.ownsRow_nil _ _ _ _) (fun k hk => (o4.lt k hk).2) (sr.mono bl4) (fun h => ⟨by first | rfl | exact (lr.2 h).1, by first | rfl | exact (lr.2 h).2⟩) (by omega) b3 b1 lr.1 h3.str (fun _ => by omega)
  rw [← htk, ← hT] at C
  refine C.mono ?_
  clear C
  rintro e w6 ⟨pa, pc, aa, ac, rfl, s6p, s6a, l6p, l6a, bl6⟩
  have bl36 := bl4.trans bl6
  have fp := sp.mono bl36
  have fr := sr.mono bl36
  have BEL : Below w.heap.size w w6 := bl03.trans (bl36.mono (by omega))
  have gp : SV w6.heap.size w6 pa n1 s1 := by have := s6p.take (m := n1) (by omega); rwa [List.take_left' h1.sv.1] at this
  have gt : ∀ x, (¬ pc = n1 → x = pa.map (·.add n1)) → SV w6.heap.size w6 x T tk := fun x hx => by have := s6p.dropIf l6p hx; rwa [List.drop_left' h1.sv.1, Nat.add_sub_cancel_left] at this
  have hTr : T = runN (s3.drop 1) := by rw [hT, htk]; exact takenRun_len _
  have hTt : tk = (s3.drop 1).take T := by rw [hTr, htk]; exact takenRun _
  have hst := h3.str
  clear o4 bl4 bl6 bl36 sp sr s6a bl03 hT htk h1 h3
  obtain ⟨br, offr, _, rfl, _⟩ := fr.at (show 0 < (N + 1) by omega)
  obtain ⟨l, hl⟩ : ∃ l, l = s3.drop 1 := ⟨_, rfl⟩
  have fl : SV w3.heap.size w6 (some ⟨br, offr + 1, none⟩) N l := by rw [hl]; exact fr.tail
  rw [← hl] at hTr hTt
  have hsl : ∀ s ∈ l, s.size ≤ maxLen := by intro s hs; rw [hl] at hs; exact hst s (List.mem_of_mem_drop hs)
  have hll := fl.1
  have hTp : 0 < T := by rw [hTr]; exact run_pos (by omega)
  have hTn : T ≤ N := by rw [hTr, ← hll]; exact runN_le l
  obtain ⟨gb, go, _, e, _⟩ := s6p.at (show n1 < n1 + T by omega)
  subst e
  have hpc : ¬ pc = n1 := by omega
  have ga : SV w6.heap.size w6 (some ⟨gb, go + n1, none⟩) T tk := gt _ (fun _ => by simp [Addr.add])
  have gl : SV w3.heap.size w6 (some ⟨br, offr + 1, none⟩) T tk := by have := fl.take (m := T) hTn; rwa [← hTt] at this
  have hg : ∀ i, i < T → tk.getD i ByteArray.empty = l.getD i ByteArray.empty := fun i hi => by rw [hTt]; simp [List.getD, hi]
  have HTr : Hid (T = runN l) := hTr
  have hTz : ¬ (T : Int) = 0 := by omega
  have hNz : ¬ (N : Int) = 0 := by omega
  have hTc : (T : Int) ≤ (N : Int) := by omega
  have hNp : (0 : Int) < (N : Int) := by omega
  have c0 := sv_form fl (i := 0) (by omega)
  rw [Nat.add_zero] at c0
  obtain ⟨x0, hx0⟩ : ∃ x, x = l.getD 0 ByteArray.empty := ⟨_, rfl⟩
  have sz0 : x0.size ≤ maxLen := by rw [hx0]; exact getD_size hsl (by omega)
  rw [← hx0] at c0
  have HX : Hid (x0 = l.getD 0 ByteArray.empty) := hx0
  have HTt : Hid (tk = l.take T) := hTt
  clear gt s6p hTr hl hx0 hTt hll fr hst
  go_wp2_with fail
  refine (sameStrs_same _ p1 n1 _ _ s1 _ _ _ gp fp (by unfold maxLen; omega)).mono ?_
  rintro e w7 ⟨rfl, k9, rfl⟩
  go_wp2_with fail
  refine (sameStrs_same _ _ T _ _ tk _ _ _ ga.drewN gl.drewN (by unfold maxLen; omega)).mono ?_
  rintro e w7 ⟨rfl, k10, rfl⟩
  by_cases hgo : goS x0 = true
  · obtain ⟨hlp, hlr⟩ := run_lead (l := l) (by have := fl.1; omega) (by rw [← HX.out]; exact hgo)
    have HL : Hid (T = lead l) := by show T = lead l; rw [HTr.out, hlr]
    clear hlp hlr
    go_wp2_with (go_at_call 29; refine (endsGo_any _ _ sz0).mono ?_; rintro e w' ⟨rfl, rfl⟩)
    go_loop [12] (fun i => ∃ k : Nat, k ≤ T ∧ i = .int .i64 k) (fun i => T - (intOf i).toNat)
    case atStart => exact ⟨0, Nat.zero_le _, rfl⟩
    case round =>
      obtain ⟨k, hk, rfl⟩ := hrel
      by_cases hlt : k < T
      · have ck := sv_form ga hlt
        obtain ⟨xk, hxk⟩ : ∃ x, x = tk.getD k ByteArray.empty := ⟨_, rfl⟩
        have szk : xk.size ≤ maxLen := by rw [hxk, hg k hlt]; exact getD_size hsl (by have := fl.1; omega)
        have gok : goS xk = true := by rw [hxk, hg k hlt]; exact lead_all l k (by rw [← HL.out]; exact hlt)
        rw [← hxk] at ck
        clear hxk ga gl fl hg c0
        have hlt' : (k : Int) < (T : Int) := by omega
        go_wp2_with (go_at_call 29; refine (endsGo_any _ _ szk).mono ?_; rintro e w' ⟨rfl, rfl⟩)
        go_round
        case rel => exact ⟨k + 1, by omega, by go_num⟩
        case measure => simp [intOf]; omega
      · by_cases hTN : T = N
        · subst hTN
          clear ga gl fl hg
          go_wp2
          go_ret
          exact ⟨rfl, below_drewN BEL _⟩
        · have ck := sv_form fl (i := T) (by omega)
          obtain ⟨xk, hxk⟩ : ∃ x, x = l.getD T ByteArray.empty := ⟨_, rfl⟩
          have szk : xk.size ≤ maxLen := by rw [hxk]; exact getD_size hsl (by have := fl.1; omega)
          have gok : goS xk = false := by
            have := lead_end l (by rw [← HL.out, fl.1]; omega)
            rw [hxk, HL.out]; exact this
          rw [← hxk] at ck
          have hTN1 : (T : Int) < (N : Int) := by omega
          have hTN2 : ((T : Int) == (N : Int)) = false := by simp; omega
          clear hxk ga gl fl hg c0
          go_wp2_with (go_at_call 29; refine (endsGo_any _ _ szk).mono ?_; rintro e w' ⟨rfl, rfl⟩)
          go_ret
          exact ⟨rfl, below_drewN BEL _⟩
  · have hgf : goS x0 = false := by simpa using hgo
    have e1 : T = 1 := by rw [HTr.out]; exact run_first (by have := fl.1; omega) (by rw [← HX.out]; exact hgf)
    subst e1
    clear ga gl fl hg hgo
    go_wp2_with (go_at_call 29; refine (endsGo_any _ _ sz0).mono ?_; rintro e w' ⟨rfl, rfl⟩)
    go_ret
    exact ⟨rfl, below_drewN BEL _⟩

end Go.Proofs.Qxb6600168a
