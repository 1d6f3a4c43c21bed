import Derived.Test.Qxb6600168aZZ
import Derived.Test.Qxb6600168aSame
import Derived.Test.Qxb6600168aBytes3
namespace Go.Proofs.Qxb6600168a
open Go.RowKit

/-- What the walk is told of a slice of strings that came in. -/
structure Arg (w : World) (a : Option Addr) (n c : Nat) (ss : List ByteArray) : Prop where
  sv : SV w.heap.size w a n ss
  nil : a = none → n = 0 ∧ c = 0
  le : n ≤ c
  max : n ≤ maxLen
  str : ∀ s ∈ ss, s.size ≤ maxLen

theorem SV.dropIf {B : Nat} {w : World} {a : Option Addr} {n : Nat} {ss : List ByteArray} (h : SV B w a n ss) {m c : Nat} (hc : n ≤ c) {x : Option Addr} (hx : ¬ c = m → x = a.map (·.add m)) : SV B w x (n - m) (ss.drop m) := by
  refine ⟨by simp [h.1], fun i hi => ?_⟩
  obtain ⟨b, off, e, hb, hcl⟩ := h.2 (m + i) (by omega)
  subst e
  refine ⟨b, off + m, by rw [hx (by omega)]; simp [Addr.add], hb, ?_⟩
  rw [Nat.add_assoc, hcl]
  simp [List.getD]

theorem addStr_any (t : Int) (s : ByteArray) (w : World) : Calls Try.prog 13 #[.int .i64 t, .string s] w fun e w' => (∃ r : Int, e = .returned (.int .i64 r)) ∧ w' = w := by
  go_enter Try.func13, Try.ntmps13
  go_wp2
  all_goals
    go_ret
    exact ⟨⟨_, rfl⟩, rfl⟩

theorem SV.drewN {B : Nat} {w : World} {a : Option Addr} {n : Nat} {ss : List ByteArray} (h : SV B w a n ss) {q : Nat} : SV B (w.drewN q) a n ss := h

theorem own_below {w w' : World} {base e size n : Nat} {v : Value} {xs : List Value} (h : w.ownsRow base e size v n xs) (hb : Below w.heap.size w w') : w'.ownsRow base e size v n xs :=
  h.kept (row := none) ⟨hb.os, hb.tape, hb.output, hb.size, fun k hk _ => hb.block k hk⟩ (by cases v.ownBlock <;> simp)

theorem taken_le (vb : ByteArray) (l : List ByteArray) : (taken vb l).length ≤ l.length := by
  unfold taken
  split
  · simp
  · split
    · rw [List.length_take]; exact Nat.min_le_right _ _
    · exact Nat.le_refl _

theorem taken_cases (vb : ByteArray) (l : List ByteArray) (n : Nat) (h : l.length = n) : ((vb.toList == [116, 101, 115, 116]) = true ∧ (taken vb l).length = 0) ∨
    ((vb.toList == [116, 101, 115, 116]) = false ∧ (vb.toList == [114, 117, 110]) = true) ∨ ((vb.toList == [116, 101, 115, 116]) = false ∧ (vb.toList == [114, 117, 110]) = false ∧ (taken vb l).length = n) := by
  cases h1 : vb.toList == [116, 101, 115, 116] with
  | true => exact .inl ⟨rfl, by unfold taken; rw [if_pos h1]; rfl⟩
  | false =>
    right
    cases h2 : vb.toList == [114, 117, 110] with
    | true => exact .inl ⟨rfl, rfl⟩
    | false => exact .inr ⟨rfl, rfl, by unfold taken; rw [if_neg (by simp [h1]), if_neg (by simp [h2])]; exact h⟩

theorem taken_take (vb : ByteArray) (l : List ByteArray) : taken vb l = l.take (taken vb l).length := by
  unfold taken
  split
  · simp
  · split
    · rw [List.length_take, Nat.min_eq_left (runN_le l)]
    · simp

set_option maxHeartbeats 2000000 in
theorem keep_walk (vb : ByteArray) (a1 a2 a3 : Option Addr) (n1 c1 n2 c2 n3 c3 : Nat) (s1 s2 s3 : List ByteArray) (dd : Bool) (w : World) (hv : vb.size ≤ maxLen) (h1 : Arg w a1 n1 c1 s1) (h2 : Arg w a2 n2 c2 s2) (h3 : Arg w a3 n3 c3 s3) :
    Calls Try.prog 9 #[.string vb, .slice a1 n1 c1, .slice a2 n2 c2, .slice a3 n3 c3, .bool dd] w fun e w' => e = .returned (.bool true) ∧ Below w.heap.size w w' := by
  go_enter Try.func9, Try.ntmps9
  go_wp2_with fail
  refine (zzBytes25 vb a1 a2 a3 n1 c1 n2 c2 n3 c3 s1 s2 s3 dd w w.heap.size h1.sv h2.sv h3.sv hv h1.max h2.max h3.max).mono ?_
  rintro e w' ⟨ht, hw⟩
  subst hw
  obtain ⟨w, rfl⟩ : ∃ w, w = w' := ⟨_, rfl⟩
  rcases ht with rfl | ⟨rfl, hb⟩
  · go_wp2
    go_ret
    exact ⟨rfl, Below.refl _ _⟩
  have b1 : n1 ≤ 1048576 := hb n1 (by simp)
  have b2 : n2 ≤ 1048576 := hb n2 (by simp)
  have b3 : n3 ≤ 1048576 := hb n3 (by simp)
  clear hb
  go_wp2_with fail
  refine (addStr_any _ _ _).mono ?_
  rintro e w' ⟨⟨t0, rfl⟩, hw⟩
  obtain rfl := hw.symm
  go_wp2_with fail
  refine (addStrs_any t0 a1 n1 c1 s1 _ _ h1.sv h1.max).mono ?_
  rintro e w' ⟨⟨t1, rfl⟩, hw⟩
  obtain rfl := hw.symm
  go_wp2_with fail
  refine (addStrs_any t1 a2 n2 c2 s2 _ _ h2.sv h2.max).mono ?_
  rintro e w' ⟨⟨t2, rfl⟩, hw⟩
  obtain rfl := hw.symm
  go_wp2_with fail
  refine (addStrs_any t2 a3 n3 c3 s3 _ _ h3.sv h3.max).mono ?_
  rintro e w' ⟨⟨t3, rfl⟩, hw⟩
  obtain rfl := hw.symm
  by_cases l3 : 1048576 < t3
  · go_wp2
    go_ret
    exact ⟨rfl, Below.refl _ _⟩
  cases dd with
  | false =>
    go_wp2_with fail
    refine (cloneStrs_any a1 n1 c1 s1 w w.heap.size h1.sv (Nat.le_refl _) h1.nil b1).mono ?_
    rintro e w1 ⟨p1, rfl, o1, bl1⟩
    have z1 := bl1.size
    go_wp2_with fail
    refine (cloneStrs_any a2 n2 c2 s2 w1 w.heap.size (h2.sv.mono bl1) z1 h2.nil b2).mono ?_
    rintro e w2 ⟨q1, rfl, o2, bl2⟩
    have z2 := bl2.size
    go_wp2_with fail
    refine (cloneStrs_any a3 n3 c3 s3 w2 w.heap.size ((h3.sv.mono bl1).mono (bl2.mono z1)) (by omega) h3.nil b3).mono ?_
    rintro e w3 ⟨r1, rfl, o3, bl3⟩
    have z3 := bl3.size
    have sp : SV w3.heap.size w3 p1 n1 s1 := (((own_SV o1).mono bl2).mono (bl3.mono z2)).up (by omega)
    have sq : SV w3.heap.size w3 q1 n2 s2 := ((own_SV o2).mono bl3).up (by omega)
    have sr : SV w3.heap.size w3 r1 n3 s3 := own_SV o3
    have lp := own_len o1
    have lq := own_len o2
    have lr := own_len o3
    have bl03 : Below w.heap.size w w3 := (bl1.trans (bl2.mono z1)).trans (bl3.mono (by omega))
    clear o1 o2 o3 bl1 bl2 bl3
    go_wp2_with fail
    refine (cloneStrs_any p1 n1 n1 s1 w3 w3.heap.size sp (Nat.le_refl _) lp.2 b1).mono ?_
    rintro e w4 ⟨p2, rfl, o4, bl4⟩
    have z4 := bl4.size
    go_wp2_with fail
    refine (cloneStrs_any q1 n2 n2 s2 w4 w3.heap.size (sq.mono bl4) z4 lq.2 b2).mono ?_
    rintro e w5 ⟨q2, rfl, o5, bl5⟩
    have z5 := bl5.size
    have bl45 : Below w3.heap.size w3 w5 := bl4.trans (bl5.mono z4)
    have hPA : ∀ k, (Value.slice p2 n1 n1).ownBlock = some k → k < w4.heap.size := fun k hk => (o4.lt k hk).2
    go_wp2_with fail
    obtain ⟨tk, htk⟩ : ∃ tk, tk = taken vb (rpOf false s3) := ⟨_, rfl⟩
    obtain ⟨T, hT⟩ : ∃ T, T = tk.length := ⟨_, rfl⟩
    have C := zzPositional_any vb p2 q2 r1 n1 n1 n2 n2 n3 n3 s1 s2 s3 false w5 w3.heap.size w4.heap.size z4 z5 (own_below o4 bl5) o5 hPA (sr.mono bl45) lr.2 b2 b3 b1 lr.1 h3.str (by simp)
    rw [← htk, ← hT] at C
    refine C.mono ?_
    clear C
    rintro e w6 ⟨pa, pc, aa, ac, rfl, s6p, s6a, l6p, l6a, bl6⟩
    have bl36 := bl45.trans bl6
    have fp := sp.mono bl36
    have fq := sq.mono bl36
    have fr := sr.mono bl36
    have BEL : Below w.heap.size w w6 := bl03.trans (bl36.mono (by omega))
    have hTl : T ≤ s3.length := by rw [hT, htk]; exact taken_le _ _
    have hTt : tk = s3.take T := by rw [hT, htk]; exact taken_take _ _
    have ga : SV w6.heap.size w6 aa n2 s2 := by have := s6a.take (m := n2) (by omega); rwa [List.take_left' h2.sv.1] at this
    have gp : SV w6.heap.size w6 pa n1 s1 := by have := s6p.take (m := n1) (by omega); rwa [List.take_left' h1.sv.1] at this
    have gb : ∀ x, (¬ ac = n2 → x = aa.map (·.add n2)) → SV w6.heap.size w6 x n3 s3 := fun x hx => by have := s6a.dropIf l6a hx; rwa [List.drop_left' h2.sv.1, Nat.add_sub_cancel_left] at this
    have gt : ∀ x, (¬ pc = n1 → x = pa.map (·.add n1)) → SV w6.heap.size w6 x T tk := fun x hx => by have := s6p.dropIf l6p hx; rwa [List.drop_left' h1.sv.1, Nat.add_sub_cancel_left] at this
    have len3 := h3.sv.1
    have HT : Hid (T = tk.length ∧ tk = taken vb (rpOf false s3)) := ⟨hT, htk⟩
    clear o4 o5 bl4 bl5 bl45 bl6 bl36 sp sq sr hPA s6p s6a bl03 hT htk h1 h2 h3
    have gr : SV w3.heap.size w6 r1 T tk := by have := fr.take (m := T) (by omega); rwa [← hTt] at this
    have hTn : T ≤ n3 := by have := fr.1; omega
    have hfin : ((vb.toList == [116, 101, 115, 116]) = true ∧ T = 0) ∨ ((vb.toList == [116, 101, 115, 116]) = false ∧ (vb.toList == [114, 117, 110]) = true) ∨ ((vb.toList == [116, 101, 115, 116]) = false ∧ (vb.toList == [114, 117, 110]) = false ∧ T = n3) := by
      rw [HT.out.1, HT.out.2]
      exact taken_cases vb _ _ (by have := fr.1; show s3.length = _; omega)
    clear hTt hTl len3 HT
    rcases (show (ac = n2 ∧ SV w6.heap.size w6 aa n3 s3) ∨ (¬ ac = n2 ∧ SV w6.heap.size w6 (aa.map (·.add n2)) n3 s3) by
      by_cases h : ac = n2
      · exact .inl ⟨h, gb _ (fun h' => absurd h h')⟩
      · exact .inr ⟨h, gb _ (fun _ => rfl)⟩) with ⟨hac, gb'⟩ | ⟨hac, gb'⟩
    all_goals rcases (show (pc = n1 ∧ SV w6.heap.size w6 pa T tk) ∨ (¬ pc = n1 ∧ SV w6.heap.size w6 (pa.map (·.add n1)) T tk) by
      by_cases h : pc = n1
      · exact .inl ⟨h, gt _ (fun h' => absurd h h')⟩
      · exact .inr ⟨h, gt _ (fun _ => rfl)⟩) with ⟨hpc, gt'⟩ | ⟨hpc, gt'⟩
    all_goals have gr' := gr
    all_goals
      clear gb gt gr
      go_wp2_with fail
      refine (sameStrs_same aa q1 n2 _ _ s2 w6 _ _ ga fq (by unfold maxLen; omega)).mono ?_
      rintro e w7 ⟨rfl, k7, rfl⟩
      go_wp2_with fail
      refine (sameStrs_same _ r1 n3 _ _ s3 _ _ _ gb'.drewN fr.drewN (by unfold maxLen; omega)).mono ?_
      rintro e w7 ⟨rfl, k8, rfl⟩
      go_wp2_with fail
      refine (sameStrs_same pa p1 n1 _ _ s1 _ _ _ gp.drewN fp.drewN (by unfold maxLen; omega)).mono ?_
      rintro e w7 ⟨rfl, k9, rfl⟩
      go_wp2_with fail
      refine (sameStrs_same _ _ T _ _ tk _ _ _ gt'.drewN gr'.drewN (by unfold maxLen; omega)).mono ?_
      rintro e w7 ⟨rfl, k10, rfl⟩
      rcases hfin with ⟨v1, rfl⟩ | ⟨v1, v2⟩ | ⟨v1, v2, v3⟩
      · go_wp2
        go_ret
        exact ⟨rfl, below_drewN BEL _⟩
      · go_wp2
        go_ret
        exact ⟨rfl, below_drewN BEL _⟩
      · go_wp2
        go_ret
        exact ⟨rfl, below_drewN BEL _⟩
  | true =>
    by_cases hz : n3 = 0
    · subst hz
      go_wp2
      go_ret
      exact ⟨rfl, Below.refl _ _⟩
    have hz' : ¬ (n3 : Int) = 0 := by omega
    go_wp2_with fail
    refine (cloneStrs_any a1 n1 c1 s1 w w.heap.size h1.sv (Nat.le_refl _) h1.nil b1).mono ?_
    rintro e w1 ⟨p1, rfl, o1, bl1⟩
    have z1 := bl1.size
    go_wp2_with fail
    refine (cloneStrs_any a2 n2 c2 s2 w1 w.heap.size (h2.sv.mono bl1) z1 h2.nil b2).mono ?_
    rintro e w2 ⟨q1, rfl, o2, bl2⟩
    have z2 := bl2.size
    go_wp2_with fail
    refine (cloneStrs_any a3 n3 c3 s3 w2 w.heap.size ((h3.sv.mono bl1).mono (bl2.mono z1)) (by omega) h3.nil b3).mono ?_
    rintro e w3 ⟨r1, rfl, o3, bl3⟩
    have z3 := bl3.size
    have sp : SV w3.heap.size w3 p1 n1 s1 := (((own_SV o1).mono bl2).mono (bl3.mono z2)).up (by omega)
    have sq : SV w3.heap.size w3 q1 n2 s2 := ((own_SV o2).mono bl3).up (by omega)
    have sr : SV w3.heap.size w3 r1 n3 s3 := own_SV o3
    have lp := own_len o1
    have lq := own_len o2
    have lr := own_len o3
    have bl03 : Below w.heap.size w w3 := (bl1.trans (bl2.mono z1)).trans (bl3.mono (by omega))
    clear o1 o2 o3 bl1 bl2 bl3
    go_wp2_with fail
    refine (cloneStrs_any p1 n1 n1 s1 w3 w3.heap.size sp (Nat.le_refl _) lp.2 b1).mono ?_
    rintro e w4 ⟨p2, rfl, o4, bl4⟩
    have z4 := bl4.size
    go_wp2_with fail
    refine (cloneStrs_any q1 n2 n2 s2 w4 w3.heap.size (sq.mono bl4) z4 lq.2 b2).mono ?_
    rintro e w5 ⟨q2, rfl, o5, bl5⟩
    have z5 := bl5.size
    have bl45 : Below w3.heap.size w3 w5 := bl4.trans (bl5.mono z4)
    have hPA : ∀ k, (Value.slice p2 n1 n1).ownBlock = some k → k < w4.heap.size := fun k hk => (o4.lt k hk).2
    go_wp2_with fail
    obtain ⟨tk, htk⟩ : ∃ tk, tk = taken vb (rpOf true s3) := ⟨_, rfl⟩
    obtain ⟨T, hT⟩ : ∃ T, T = tk.length := ⟨_, rfl⟩
    have C := zzPositional_any vb p2 q2 r1 n1 n1 n2 n2 n3 n3 s1 s2 s3 true w5 w3.heap.size w4.heap.size z4 z5 (own_below o4 bl5) o5 hPA (sr.mono bl45) lr.2 b2 b3 b1 lr.1 h3.str (fun _ => by omega)
    rw [← htk, ← hT] at C
    refine C.mono ?_
    clear C
    rintro e w6 ⟨pa, pc, aa, ac, rfl, s6p, s6a, l6p, l6a, bl6⟩
    have bl36 := bl45.trans bl6
    have fp := sp.mono bl36
    have fq := sq.mono bl36
    have fr := sr.mono bl36
    have BEL : Below w.heap.size w w6 := bl03.trans (bl36.mono (by omega))
    have hTl : T ≤ (s3.drop 1).length := by rw [hT, htk]; exact taken_le _ _
    have hTt : tk = (s3.drop 1).take T := by rw [hT, htk]; exact taken_take _ _
    have ga : SV w6.heap.size w6 aa n2 s2 := by have := s6a.take (m := n2) (by omega); rwa [List.take_left' h2.sv.1] at this
    have gp : SV w6.heap.size w6 pa n1 s1 := by have := s6p.take (m := n1) (by omega); rwa [List.take_left' h1.sv.1] at this
    have gb : ∀ x, (¬ ac = n2 → x = aa.map (·.add n2)) → SV w6.heap.size w6 x n3 s3 := fun x hx => by have := s6a.dropIf l6a hx; rwa [List.drop_left' h2.sv.1, Nat.add_sub_cancel_left] at this
    have gt : ∀ x, (¬ pc = n1 → x = pa.map (·.add n1)) → SV w6.heap.size w6 x T tk := fun x hx => by have := s6p.dropIf l6p hx; rwa [List.drop_left' h1.sv.1, Nat.add_sub_cancel_left] at this
    have len3 := h3.sv.1
    have HT : Hid (T = tk.length ∧ tk = taken vb (rpOf true s3)) := ⟨hT, htk⟩
    clear o4 o5 bl4 bl5 bl45 bl6 bl36 sp sq sr hPA s6p s6a bl03 hT htk h1 h2 h3
    have gr : ∀ x, (¬ n3 = 1 → x = r1.map (·.add 1)) → SV w3.heap.size w6 x T tk := fun x hx => by have := (fr.dropIf (m := 1) lr.1 hx).take (m := T) (by have := fr.1; rw [List.length_drop] at hTl; omega); rwa [← hTt] at this
    have hTn : T ≤ n3 - 1 := by have := fr.1; rw [List.length_drop] at hTl; omega
    have hfin : ((vb.toList == [116, 101, 115, 116]) = true ∧ T = 0) ∨ ((vb.toList == [116, 101, 115, 116]) = false ∧ (vb.toList == [114, 117, 110]) = true) ∨ ((vb.toList == [116, 101, 115, 116]) = false ∧ (vb.toList == [114, 117, 110]) = false ∧ T = n3 - 1) := by
      rw [HT.out.1, HT.out.2]
      exact taken_cases vb _ _ (by have := fr.1; show (s3.drop 1).length = _; simp; omega)
    clear hTt hTl len3 HT
    have hac : ¬ ac = n2 := by omega
    have gb' := gb _ (fun _ => rfl)
    by_cases hn1 : n3 = 1
    · obtain rfl : T = 0 := by omega
      subst hn1
      obtain rfl : tk = [] := List.eq_nil_of_length_eq_zero (gt _ (fun _ => rfl)).1
      have gr' := gr r1 (fun h => absurd rfl h)
      rcases (show (pc = n1 ∧ SV w6.heap.size w6 pa 0 []) ∨ (¬ pc = n1 ∧ SV w6.heap.size w6 (pa.map (·.add n1)) 0 []) by
        by_cases h : pc = n1
        · exact .inl ⟨h, gt _ (fun h' => absurd h h')⟩
        · exact .inr ⟨h, gt _ (fun _ => rfl)⟩) with ⟨hpc, gt'⟩ | ⟨hpc, gt'⟩
      all_goals
        clear gb gt gr
        go_wp2_with fail
        refine (sameStrs_same aa q1 n2 _ _ s2 w6 _ _ ga fq (by unfold maxLen; omega)).mono ?_
        rintro e w7 ⟨rfl, k7, rfl⟩
        go_wp2_with fail
        refine (sameStrs_same _ r1 1 _ _ s3 _ _ _ gb'.drewN fr.drewN (by unfold maxLen; omega)).mono ?_
        rintro e w7 ⟨rfl, k8, rfl⟩
        go_wp2_with fail
        refine (sameStrs_same pa p1 n1 _ _ s1 _ _ _ gp.drewN fp.drewN (by unfold maxLen; omega)).mono ?_
        rintro e w7 ⟨rfl, k9, rfl⟩
        go_wp2_with fail
        refine (sameStrs_same _ _ 0 _ _ [] _ _ _ gt'.drewN gr'.drewN (by unfold maxLen; omega)).mono ?_
        rintro e w7 ⟨rfl, k10, rfl⟩
        rcases hfin with ⟨v1, _⟩ | ⟨v1, v2⟩ | ⟨v1, v2, _⟩
        · go_wp2
          go_ret
          exact ⟨rfl, below_drewN BEL _⟩
        · go_wp2
          go_ret
          exact ⟨rfl, below_drewN BEL _⟩
        · go_wp2
          go_ret
          exact ⟨rfl, below_drewN BEL _⟩
    · have gr' := gr _ (fun _ => rfl)
      rcases (show (pc = n1 ∧ SV w6.heap.size w6 pa T tk) ∨ (¬ pc = n1 ∧ SV w6.heap.size w6 (pa.map (·.add n1)) T tk) by
        by_cases h : pc = n1
        · exact .inl ⟨h, gt _ (fun h' => absurd h h')⟩
        · exact .inr ⟨h, gt _ (fun _ => rfl)⟩) with ⟨hpc, gt'⟩ | ⟨hpc, gt'⟩
      all_goals
        clear gb gt gr
        go_wp2_with fail
        refine (sameStrs_same aa q1 n2 _ _ s2 w6 _ _ ga fq (by unfold maxLen; omega)).mono ?_
        rintro e w7 ⟨rfl, k7, rfl⟩
        go_wp2_with fail
        refine (sameStrs_same _ r1 n3 _ _ s3 _ _ _ gb'.drewN fr.drewN (by unfold maxLen; omega)).mono ?_
        rintro e w7 ⟨rfl, k8, rfl⟩
        go_wp2_with fail
        refine (sameStrs_same pa p1 n1 _ _ s1 _ _ _ gp.drewN fp.drewN (by unfold maxLen; omega)).mono ?_
        rintro e w7 ⟨rfl, k9, rfl⟩
        go_wp2_with fail
        refine (sameStrs_same _ _ T _ _ tk _ _ _ gt'.drewN gr'.drewN (by unfold maxLen; omega)).mono ?_
        rintro e w7 ⟨rfl, k10, rfl⟩
        rcases hfin with ⟨v1, rfl⟩ | ⟨v1, v2⟩ | ⟨v1, v2, v3⟩
        · go_wp2
          go_ret
          exact ⟨rfl, below_drewN BEL _⟩
        · go_wp2
          go_ret
          exact ⟨rfl, below_drewN BEL _⟩
        · go_wp2
          go_ret
          exact ⟨rfl, below_drewN BEL _⟩

end Go.Proofs.Qxb6600168a
