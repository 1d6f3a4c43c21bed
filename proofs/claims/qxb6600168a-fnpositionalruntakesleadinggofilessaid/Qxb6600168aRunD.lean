import Derived.Test.Qxb6600168aRun
namespace Go.Proofs.Qxb6600168a
open Go.RowKit

set_option maxHeartbeats 2000000 in
theorem positional_runD (vb : ByteArray) (g : Nat) (pa aa : Option Addr) (br offr : Nat) (pn pc an ac n2 c2 : Nat) (ps ys rs : List ByteArray) (w : World) (B bA : Nat)
    (h1 : (vb.toList == [116, 101, 115, 116]) = false) (h2 : (vb.toList == [114, 117, 110]) = true) (hI : Inv w g vb (.slice pa pn pc) (.slice aa an ac)) (hB : B ≤ g) (hBA : B ≤ bA) (hbA : bA ≤ w.heap.size)
    (hP : w.ownsRow B 9 1 (.slice pa pn pc) pn (ps.map Value.string)) (hA : w.ownsRow bA 9 1 (.slice aa an ac) an (ys.map Value.string)) (hPA : ∀ k, (Value.slice pa pn pc).ownBlock = some k → k < bA)
    (hR : SV B w (some ⟨br, offr, none⟩) (n2 + 1) rs) (han : an ≤ 1048576) (hnr : n2 + 1 ≤ 1048576) (hpn : pn ≤ 1048576) (hcr : n2 ≤ c2) (hst0 : ∀ s ∈ rs, s.size ≤ maxLen) (hc2 : ¬ c2 = 0) :
    Calls Try.prog 33 #[.pointer (some ⟨g, 0, none⟩), .slice (some ⟨br, offr, none⟩) (n2 + 1) (c2 + 1), .bool true] w fun e w' => e = .returned (.tuple #[]) ∧ Posd B w w' g (pn + runN (rs.drop 1)) (ps ++ (rs.drop 1).take (runN (rs.drop 1))) (an + (n2 + 1)) (ys ++ rs) := by
  obtain ⟨c0, c1, c8, cf⟩ := hI.cells
  have hg := lt_of_block hI
  obtain ⟨rs2, hrs2⟩ : ∃ r, r = rs.drop 1 := ⟨_, rfl⟩
  have hst : ∀ s ∈ rs2, s.size ≤ maxLen := fun s hs => hst0 s (List.mem_of_mem_drop (by rw [← hrs2]; exact hs))
  rw [← hrs2]
  have HR2 : Hid (rs2 = rs.drop 1) := hrs2
  clear hrs2 hst0
  go_enter Try.func33, Try.ntmps33
  go_wp2_with (at_builtin; refine wpList_append_strs rfl _ _ rfl bA aa an ac ys rfl hA B _ _ _ rs rfl hR (by simp) han hnr hbA ?_)
  intro a' c' w1 hown hgrow
  have hz := hgrow.size
  obtain ⟨d0, d1, d8, df⟩ := (hI.grown hgrow (hI.other hA)).cells
  obtain ⟨r1, r2, r3, r4', r5⟩ := step1 hI hB hBA hP hA hPA hR hown hgrow
  have r4 := r4'.tail
  rw [← HR2.out, Nat.add_sub_cancel] at r4
  clear hown hgrow hI hP hA hR r4'
  go_wp2
  go_loop [6] (fun i => ∃ k : Nat, k ≤ n2 ∧ i = .int .i64 k ∧ ∀ j, j < k → goS (rs2.getD j ByteArray.empty) = true) (fun i => n2 - (intOf i).toNat)
  case atStart => exact ⟨0, Nat.zero_le _, rfl, fun j hj => by omega⟩
  case round =>
    obtain ⟨k, hk, rfl, hgo⟩ := hrel
    by_cases hlt : k < n2
    · obtain ⟨b, off, e, hbB, hc⟩ := r4.2 k hlt
      simp only [Option.some.injEq, Addr.mk.injEq, and_true] at e
      obtain ⟨rfl, rfl⟩ := e
      obtain ⟨s, hs⟩ : ∃ s, s = rs2.getD k ByteArray.empty := ⟨_, rfl⟩
      rw [← hs] at hc
      have hsz : s.size ≤ maxLen := by
        rw [hs, List.getD, List.getElem?_eq_getElem (show k < rs2.length by have := r4.1; omega)]
        exact hst _ (List.getElem_mem _)
      by_cases hgs : goS s = true
      · have HG : Hid (∀ j, j < k + 1 → goS (rs2.getD j ByteArray.empty) = true) := by
          intro j hj
          by_cases e : j = k
          · rw [e, ← hs]; exact hgs
          · exact hgo j (by omega)
        clear hgo hs
        go_wp2_with (go_at_call 38; refine (hasSuffix_any _ _ hsz).mono ?_; rintro e w' ⟨rfl, rfl⟩)
        go_round
        case rel => exact ⟨k + 1, by omega, by go_num, HG.out⟩
        case measure => simp [intOf]; omega
      · have hgs' : goS s = false := by simpa using hgs
        have HL : Hid (lead rs2 = k) := lead_eq rs2 k (by have := r4.1; omega) hgo (fun _ => by rw [← hs]; exact hgs')
        clear hgo hs hgs
        by_cases hk0 : k = 0
        · subst hk0
          rw [Nat.add_zero] at hc
          have HR : Hid (runN rs2 = 1) := runN_one HL.out (by have := r4.1; omega)
          have r6 := r4.take (m := 1) (by omega)
          obtain ⟨ts, hts⟩ : ∃ ts, ts = rs2.take 1 := ⟨_, rfl⟩
          rw [← hts] at r6
          have HT : Hid (ts = rs2.take 1) := hts
          have hmc : (1 : Int) ≤ (c2 : Int) := by omega
          clear hts r4 hst
          go_wp2_with (go_at_call 38; refine (hasSuffix_any _ _ hsz).mono ?_; rintro e w' ⟨rfl, rfl⟩)
          go_region_law (refine step_append_strs rfl (.tmp 60) (.tmp 63) rfl B pa pn pc ps (by simp [Act.eval]) r2.drew B (some ⟨br, offr + 1, none⟩) 1 c2 ts (by simp [Act.eval]) r6 (by simp) hpn (by omega) (by simp; omega) ?_; intro a2 c3 w3 hown3 hgrow3; obtain ⟨e0, e1, e8, ef⟩ := (r1.grown (w := (w1.setCell ⟨g, 8, none⟩ (.slice a' (an + (n2 + 1)) c')).drew) hgrow3 (r1.other r2)).cells)
          all_goals go_wp2
          all_goals go_end0
          all_goals refine ⟨rfl, ?_⟩
          all_goals rw [HR.out, ← HT.out]
          all_goals exact fin2 (w2 := (w1.setCell ⟨g, 8, none⟩ (.slice a' (an + (n2 + 1)) c')).drew) r1 hB r2 r3 hPA r5.drew (by assumption) (by assumption)
        · have hk1 : ¬ (k : Int) = 0 := by omega
          have HR : Hid (runN rs2 = k) := runN_more HL.out hk0
          have r6 := r4.take (m := k) (by omega)
          obtain ⟨ts, hts⟩ : ∃ ts, ts = rs2.take k := ⟨_, rfl⟩
          rw [← hts] at r6
          have HT : Hid (ts = rs2.take k) := hts
          have hmc : (k : Int) ≤ (c2 : Int) := by omega
          clear hts r4 hst
          go_wp2_with (go_at_call 38; refine (hasSuffix_any _ _ hsz).mono ?_; rintro e w' ⟨rfl, rfl⟩)
          go_region_law (refine step_append_strs rfl (.tmp 60) (.tmp 63) rfl B pa pn pc ps (by simp [Act.eval]) r2.drew B (some ⟨br, offr + 1, none⟩) k c2 ts (by simp [Act.eval]) r6 (by simp) hpn (by omega) (by simp; omega) ?_; intro a2 c3 w3 hown3 hgrow3; obtain ⟨e0, e1, e8, ef⟩ := (r1.grown (w := (w1.setCell ⟨g, 8, none⟩ (.slice a' (an + (n2 + 1)) c')).drew) hgrow3 (r1.other r2)).cells)
          all_goals go_wp2
          all_goals go_end0
          all_goals refine ⟨rfl, ?_⟩
          all_goals rw [HR.out, ← HT.out]
          all_goals exact fin2 (w2 := (w1.setCell ⟨g, 8, none⟩ (.slice a' (an + (n2 + 1)) c')).drew) r1 hB r2 r3 hPA r5.drew (by assumption) (by assumption)
    · have HL : Hid (lead rs2 = k) := lead_eq rs2 k (by have := r4.1; omega) hgo (fun h => by have := r4.1; omega)
      clear hgo
      by_cases hk0 : k = 0
      · subst hk0
        have HZ : Hid (n2 = 0) := by show n2 = 0; omega
        have HR : Hid (runN rs2 = 0) := runN_zero (r4.1.trans HZ.out)
        have r6 := r4.take (m := 0) (by omega)
        obtain ⟨ts, hts⟩ : ∃ ts, ts = rs2.take 0 := ⟨_, rfl⟩
        rw [← hts] at r6
        have HT : Hid (ts = rs2.take 0) := hts
        have hmc : (0 : Int) ≤ (c2 : Int) := by omega
        clear hts r4 hst
        go_wp2
        go_region_law (refine step_append_strs rfl (.tmp 60) (.tmp 63) rfl B pa pn pc ps (by simp [Act.eval]) r2.drew B (some ⟨br, offr + 1, none⟩) 0 c2 ts (by simp [Act.eval]) r6 (by simp) hpn (by omega) (by simp; omega) ?_; intro a2 c3 w3 hown3 hgrow3; obtain ⟨e0, e1, e8, ef⟩ := (r1.grown (w := (w1.setCell ⟨g, 8, none⟩ (.slice a' (an + (n2 + 1)) c')).drew) hgrow3 (r1.other r2)).cells)
        all_goals go_wp2
        all_goals go_end0
        all_goals refine ⟨rfl, ?_⟩
        all_goals rw [HR.out, ← HT.out]
        all_goals exact fin2 (w2 := (w1.setCell ⟨g, 8, none⟩ (.slice a' (an + (n2 + 1)) c')).drew) r1 hB r2 r3 hPA r5.drew (by assumption) (by assumption)
      · have hk1 : ¬ (k : Int) = 0 := by omega
        have HR : Hid (runN rs2 = k) := runN_more HL.out hk0
        have r6 := r4.take (m := k) (by omega)
        obtain ⟨ts, hts⟩ : ∃ ts, ts = rs2.take k := ⟨_, rfl⟩
        rw [← hts] at r6
        have HT : Hid (ts = rs2.take k) := hts
        have hmc : (k : Int) ≤ (c2 : Int) := by omega
        clear hts r4 hst
        go_wp2
        go_region_law (refine step_append_strs rfl (.tmp 60) (.tmp 63) rfl B pa pn pc ps (by simp [Act.eval]) r2.drew B (some ⟨br, offr + 1, none⟩) k c2 ts (by simp [Act.eval]) r6 (by simp) hpn (by omega) (by simp; omega) ?_; intro a2 c3 w3 hown3 hgrow3; obtain ⟨e0, e1, e8, ef⟩ := (r1.grown (w := (w1.setCell ⟨g, 8, none⟩ (.slice a' (an + (n2 + 1)) c')).drew) hgrow3 (r1.other r2)).cells)
        all_goals go_wp2
        all_goals go_end0
        all_goals refine ⟨rfl, ?_⟩
        all_goals rw [HR.out, ← HT.out]
        all_goals exact fin2 (w2 := (w1.setCell ⟨g, 8, none⟩ (.slice a' (an + (n2 + 1)) c')).drew) r1 hB r2 r3 hPA r5.drew (by assumption) (by assumption)

set_option maxHeartbeats 2000000 in
theorem positional_runD0 (vb : ByteArray) (g : Nat) (pa aa : Option Addr) (br offr : Nat) (pn pc an ac : Nat) (ps ys rs : List ByteArray) (w : World) (B bA : Nat)
    (h1 : (vb.toList == [116, 101, 115, 116]) = false) (h2 : (vb.toList == [114, 117, 110]) = true) (hI : Inv w g vb (.slice pa pn pc) (.slice aa an ac)) (hB : B ≤ g) (hBA : B ≤ bA) (hbA : bA ≤ w.heap.size)
    (hP : w.ownsRow B 9 1 (.slice pa pn pc) pn (ps.map Value.string)) (hA : w.ownsRow bA 9 1 (.slice aa an ac) an (ys.map Value.string)) (hPA : ∀ k, (Value.slice pa pn pc).ownBlock = some k → k < bA)
    (hR : SV B w (some ⟨br, offr, none⟩) 1 rs) (han : an ≤ 1048576) (hpn : pn ≤ 1048576) :
    Calls Try.prog 33 #[.pointer (some ⟨g, 0, none⟩), .slice (some ⟨br, offr, none⟩) 1 1, .bool true] w fun e w' => e = .returned (.tuple #[]) ∧ Posd B w w' g pn ps (an + 1) (ys ++ rs) := by
  obtain ⟨c0, c1, c8, cf⟩ := hI.cells
  have hg := lt_of_block hI
  go_enter Try.func33, Try.ntmps33
  go_wp2_with (at_builtin; refine wpList_append_strs rfl _ _ rfl bA aa an ac ys rfl hA B _ _ _ rs rfl hR (by simp) han (by omega) hbA ?_)
  intro a' c' w1 hown hgrow
  have hz := hgrow.size
  obtain ⟨d0, d1, d8, df⟩ := (hI.grown hgrow (hI.other hA)).cells
  obtain ⟨r1, r2, r3, r4', r5⟩ := step1 hI hB hBA hP hA hPA hR hown hgrow
  clear hown hgrow hI hP hA hR r4'
  go_wp2
  go_loop [6] (fun i => i = .int .i64 0) (fun _ => 0)
  case atStart => rfl
  case round =>
    subst hrel
    go_wp2
    go_region_law (refine step_append_strs rfl (.tmp 60) (.tmp 63) rfl B pa pn pc ps (by simp [Act.eval]) r2.drew B (some ⟨br, offr, none⟩) 0 0 [] (by simp [Act.eval]) (SV.nil _ _ _) (by simp) hpn (by omega) (by simp; omega) ?_; intro a2 c3 w3 hown3 hgrow3; obtain ⟨e0, e1, e8, ef⟩ := (r1.grown (w := (w1.setCell ⟨g, 8, none⟩ (.slice a' (an + 1) c')).drew) hgrow3 (r1.other r2)).cells)
    all_goals go_wp2
    all_goals go_end0
    all_goals refine ⟨rfl, ?_⟩
    all_goals
      have F := fin2 (nt := 0) (ts := []) (w2 := (w1.setCell ⟨g, 8, none⟩ (.slice a' (an + 1) c')).drew) r1 hB r2 r3 hPA r5.drew (by simpa using hown3) hgrow3
      simpa using F

end Go.Proofs.Qxb6600168a
