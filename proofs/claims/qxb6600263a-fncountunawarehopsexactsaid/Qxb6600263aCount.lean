import Derived.Test.Qxb6600263aPlain
namespace Go.Proofs.Qxb6600263a
open Go.RowKit

/-- What the count leaves. -/
def Left (w : World) (t g n : Nat) (F H Wd : Nat → Nat) (w' : World) : Prop :=
  (((n = 0 ∨ hasHl (F 0) = false) → St w' t g n (CN F H Wd (fun _ => 0)) (.pointer none)) ∧
   (0 < n → hasHl (F 0) = true → ∃ q, q < w'.heap.size ∧ g < q ∧ St w' t g n (CN F H Wd (Uk (fun i => hl (F i) (H i) (Wd i)) (n - 1))) (.pointer (some ⟨q, 0, none⟩)) ∧ w'.cell? ⟨q, 0, none⟩ = some (.int .i64 ((tot (fun i => hl (F i) (H i) (Wd i)) (n - 1) : Nat) : Int)))) ∧ Below t w w'

set_option maxRecDepth 100000 in
set_option maxHeartbeats 2000000 in
theorem count_any (t g n : Nat) (F H Wd : Nat → Nat) (w : World) (hF : ∀ i, F i < 4294967296) (hH : ∀ i, H i < 256) (hW : ∀ i, Wd i < 256) (hn : n ≤ 1048576)
    (st : St w t g n (CN F H Wd (fun _ => 0)) (.pointer none)) :
    Calls Try.prog 18 #[.pointer (some ⟨t, 0, none⟩)] w fun e w' => (∃ r, e = .returned r) ∧ Left w t g n F H Wd w' := by
  have s9 := st.hs
  rcases Nat.eq_zero_or_pos n with hn0 | hn0
  · subst hn0
    have HST := hid st
    clear st hF hH hW
    go_enter Try.func18, Try.ntmps18
    go_wp2
    (try simp only [Exit.inBlock, Exit.then])
    refine bodyPost_ret (results_none rfl _ _ _) rfl ?_
    exact ⟨⟨_, rfl⟩, ⟨fun _ => HST.out, fun h => by omega⟩, Below.refl _ _⟩
  have c0 : w.cell? ⟨g, 0, none⟩ = some (.int .u32 ((F 0 : Nat) : Int)) := by
    rw [st.cell 0 (by omega)]
    show some (CN _ _ _ _ (0 * 40 + 0)) = _
    rw [CN_at _ _ _ _ _ _ (by omega)]; rfl
  have c1 : w.cell? ⟨g, 1, none⟩ = some (.int .u8 ((H 0 : Nat) : Int)) := by
    rw [st.cell 1 (by omega)]
    show some (CN _ _ _ _ (0 * 40 + 1)) = _
    rw [CN_at _ _ _ _ _ _ (by omega)]; rfl
  have c14 : w.cell? ⟨g, 14, none⟩ = some (.int .u8 ((Wd 0 : Nat) : Int)) := by
    rw [st.cell 14 (by omega)]
    show some (CN _ _ _ _ (0 * 40 + 14)) = _
    rw [CN_at _ _ _ _ _ _ (by omega)]; rfl
  have hop := hid (hopLim_any g 0 (F 0) (H 0) (Wd 0) w (hF 0) c0 (by simpa using c1) (by simpa using c14))
  clear c0 c1 c14
  have HST := hid st
  have HF := hid hF
  have HH := hid hH
  have HW := hid hW
  have hn1 : ¬ n = 0 := by omega
  clear st hF hH hW
  cases hb : hasHl (F 0) with
  | false =>
    rw [hb] at hop
    have HBF := hid hb
    clear hb
    go_enter Try.func18, Try.ntmps18
    go_wp2_with fail
    refine (Hid.out hop).mono ?_
    rintro e w1 ⟨he, hw⟩
    obtain rfl := hw.symm
    subst he
    clear hop
    go_wp2
    (try simp only [Exit.inBlock, Exit.then])
    refine bodyPost_ret (results_none rfl _ _ _) rfl ?_
    exact ⟨⟨_, rfl⟩, ⟨fun _ => HST.out, fun _ h2 => by rw [HBF.out] at h2; cases h2⟩, Below.refl _ _⟩
  | true =>
    rw [hb] at hop
    have HBF := hid hb
    clear hb
    obtain ⟨P, hP⟩ : ∃ P : Nat → Nat, P = fun i => hl (F i) (H i) (Wd i) := ⟨_, rfl⟩
    have hP0 : hl (F 0) (H 0) (Wd 0) = P 0 := by rw [hP]
    rw [hP0] at hop
    have HPP := hid hP
    clear hP hP0
    go_enter Try.func18, Try.ntmps18
    go_wp2_with fail
    refine (Hid.out hop).mono ?_
    rintro e w1 ⟨he, hw⟩
    obtain rfl := hw.symm
    subst he
    clear hop
    have hbA : Below w.heap.size w (w.alloc (Obj.cells #[.int .i64 0] 3)) := (Below.refl _ _).alloc (Nat.le_refl _) _
    have hA := heap_alloc_new w (Obj.cells #[.int .i64 0] 3)
    have stA := HST.out.mono hbA HST.out.gw
    have s9 := stA.hs
    have cA := cell_of_one hA
    have fA := free_of_one hA
    have hgw := HST.out.gw
    have htg := HST.out.tg
    have R := hid (And.intro stA (And.intro cA (And.intro fA (hbA.mono (B' := t) (by omega)))))
    clear hbA hA stA HST
    have HN : Hid (∃ m, n = m + 1 ∧ n - 1 = m) := hid ⟨n - 1, by omega, rfl⟩
    by_cases hn2 : n = 1
    · subst hn2
      clear hn0 hn1 HN
      go_wp2
      go_loopw [33] (fun i wr => i = .int .i64 0 ∧ wr = w.alloc (Obj.cells #[.int .i64 0] 3)) (fun i _ => 0)
      case atStart => exact ⟨rfl, rfl⟩
      case round =>
        obtain ⟨rfl, rfl⟩ := hrel
        have f8 := R.out.1.fzt 8
        have c8 := R.out.1.hp
        go_wp2
        go_end0
        refine ⟨⟨_, rfl⟩, ⟨fun h => ?_, fun _ _ => ⟨w.heap.size, ?_, hgw, ?_, ?_⟩⟩, ?_⟩
        · rcases h with h | h
          · omega
          · rw [HBF.out] at h; cases h
        · simp [World.setCell]
        · rw [Uk_zero]
          exact R.out.1.setPtr _
        · rw [World.cell?_setCell_other _ _ _ _ (by intro e'; simp only [Addr.mk.injEq] at e'; omega)]
          exact R.out.2.1
        · exact R.out.2.2.2.setCell (p := ⟨t, 8, none⟩) (Nat.le_refl _) _
    · go_wp2
      obtain ⟨m, hm, hm'⟩ := HN.out
      rw [hm']
      have HM := hid hm
      have hmn : m < n := by omega
      clear hm hm' hn2 hn0 hn1 HN cA fA s9
      clear s9
      go_loopw [33, 2] (fun i pv wr => ∃ k : Nat, k ≤ m ∧ i = .int .i64 k ∧ pv = .int .u8 ((P k : Nat) : Int) ∧ St wr t g n (CN F H Wd (Uk P k)) (.pointer none) ∧ wr.cell? ⟨w.heap.size, 0, none⟩ = some (.int .i64 ((tot P k : Nat) : Int)) ∧ wr.frozen? ⟨w.heap.size, 0, none⟩ = false ∧ Below t w wr ∧ w.heap.size < wr.heap.size) (fun i _ _ => m - (intOf i).toNat)
      case atStart =>
        refine ⟨0, Nat.zero_le _, rfl, rfl, ?_, R.out.2.1, R.out.2.2.1, R.out.2.2.2, by simp⟩
        rw [Uk_zero]
        exact R.out.1
      case round =>
        clear R
        obtain ⟨k, hk, rfl, rfl, st, ct, ft, hb, hsz⟩ := hrel
        by_cases hlt : k < m
        · have hkn : k + 1 < n := by omega
          have hPk : P k < 256 := by rw [HPP.out]; exact hl_lt (HH.out _) (HW.out _)
          have hPk1 : P (k + 1) < 256 := by rw [HPP.out]; exact hl_lt (HH.out _) (HW.out _)
          have c0 : wr.cell? ⟨g, (k + 1) * 40, none⟩ = some (.int .u32 ((F (k + 1) : Nat) : Int)) := by
            rw [st.cell ((k + 1) * 40) (by omega)]
            show some (CN _ _ _ _ ((k + 1) * 40 + 0)) = _
            rw [CN_at _ _ _ _ _ _ (by omega)]; rfl
          have c1 : wr.cell? ⟨g, (k + 1) * 40 + 1, none⟩ = some (.int .u8 ((H (k + 1) : Nat) : Int)) := by
            rw [st.cell ((k + 1) * 40 + 1) (by omega), CN_at _ _ _ _ _ _ (by omega)]; rfl
          have c14 : wr.cell? ⟨g, (k + 1) * 40 + 14, none⟩ = some (.int .u8 ((Wd (k + 1) : Nat) : Int)) := by
            rw [st.cell ((k + 1) * 40 + 14) (by omega), CN_at _ _ _ _ _ _ (by omega)]; rfl
          have hop := hopLim_any g ((k + 1) * 40) (F (k + 1)) (H (k + 1)) (Wd (k + 1)) wr (HF.out _) c0 c1 c14
          have hPe : hl (F (k + 1)) (H (k + 1)) (Wd (k + 1)) = P (k + 1) := by rw [HPP.out]
          rw [hPe] at hop
          obtain ⟨c, hc⟩ : ∃ c, c = P (k + 1) := ⟨_, rfl⟩
          obtain ⟨p, hp⟩ : ∃ p, p = P k := ⟨_, rfl⟩
          rw [← hc] at hop hPk1
          rw [← hp] at hPk ⊢
          have HOP := hid hop
          have d39 : wr.cell? ⟨g, (k + 1) * 40 + 39, none⟩ = some (.int .i64 0) := by
            rw [st.cell ((k + 1) * 40 + 39) (by omega), CN_at _ _ _ _ _ _ (by omega)]
            have hu : Uk P k (k + 1) = 0 := by unfold Uk; rw [if_neg (by omega)]
            rw [hu]
            rfl
          have f39 := st.fz ((k + 1) * 40 + 39)
          have s9 := st.hs
          have hT : tot P k < 1000000000 := by
            have := tot_le (P := P) (fun i => by rw [HPP.out]; exact hl_lt (HH.out _) (HW.out _)) k
            omega
          have HCP := hid (And.intro hp hc)
          have HST := hid st
          have HB := hid hb
          clear c0 c1 c14 hop hPe hp hc st hb
          by_cases hgp : c + 2 ≤ p
          · have hG : gap (P k) (P (k + 1)) = p - c - 1 := by unfold gap; rw [← HCP.out.1, ← HCP.out.2, if_pos hgp]
            obtain ⟨G, hGe⟩ : ∃ G, p = c + 1 + G := ⟨p - c - 1, by omega⟩
            have hGG : gap (P k) (P (k + 1)) = G := by omega
            have HG := hid hGG
            have g0 : (p : Int) - (c : Int) - 1 = (G : Int) := by omega
            have g1 : 0 < G := by omega
            clear hG hGG hGe
            go_wp2_with fail
            refine (Hid.out HOP).mono ?_
            rintro e w1 ⟨he, hw⟩
            obtain rfl := hw.symm
            subst he
            clear HOP
            go_wp2
            go_roundw
            case rel =>
              have htk : tot P (k + 1) = tot P k + G := by show tot P k + gap (P k) (P (k + 1)) = _; rw [HG.out]
              have huk := Uk_succ P k
              rw [HG.out] at huk
              have st1 := HST.out.setNode (j := (k + 1) * 40 + 39) (v := .int .i64 (G : Int)) (by omega) (CN_U _ _ _ _ (k + 1) G)
              rw [huk] at st1
              refine ⟨k + 1, by omega, by go_num, by rw [HCP.out.2], ?_, ?_, ?_, ?_, ?_⟩
              · exact st1.mono ((Below.refl w.heap.size _).setCell (p := ⟨w.heap.size, 0, none⟩) (Nat.le_refl _) _) hgw
              · rw [htk]
                refine World.cell?_setCell_same _ _ _ (u := .int .i64 ((tot P k : Nat) : Int)) ?_
                rw [World.cell?_setCell_other _ _ _ _ (by intro e'; simp only [Addr.mk.injEq] at e'; omega)]
                exact ct
              · rw [World.frozen?_setCell, World.frozen?_setCell]; exact ft
              · exact (HB.out.setCell (p := ⟨g, (k + 1) * 40 + 39, none⟩) (by show t ≤ g; omega) _).setCell (p := ⟨w.heap.size, 0, none⟩) (by show t ≤ w.heap.size; omega) _
              · simpa [World.setCell] using hsz
            case measure => simp [intOf]; omega
          · have hG : gap (P k) (P (k + 1)) = 0 := by unfold gap; rw [← HCP.out.1, ← HCP.out.2, if_neg hgp]
            have HG := hid hG
            have g0 : ¬ (0 : Int) < (p : Int) - (c : Int) - 1 := by omega
            clear hG hgp
            go_wp2_with fail
            refine (Hid.out HOP).mono ?_
            rintro e w1 ⟨he, hw⟩
            obtain rfl := hw.symm
            subst he
            clear HOP
            go_wp2
            go_roundw
            case rel =>
              have htk : tot P (k + 1) = tot P k := by show tot P k + gap (P k) (P (k + 1)) = _; rw [HG.out]; rfl
              have huk := Uk_same P k HG.out
              refine ⟨k + 1, by omega, by go_num, by rw [HCP.out.2], ?_, ?_, ft, HB.out, hsz⟩
              · rw [← huk]; exact HST.out
              · rw [htk]; exact ct
            case measure => simp [intOf]; omega
        · obtain rfl : k = m := by omega
          have f8 := st.fzt 8
          have c8 := st.hp
          have HST := hid st
          have HB := hid hb
          clear st hb
          go_wp2
          go_end0
          have hnm : n - 1 = k := by have := HM.out; omega
          have hPP := HPP.out
          subst hPP
          refine ⟨⟨_, rfl⟩, ⟨fun h => ?_, fun _ _ => ⟨w.heap.size, ?_, hgw, ?_, ?_⟩⟩, ?_⟩
          · rcases h with h | h
            · omega
            · rw [HBF.out] at h; cases h
          · simpa [World.setCell] using hsz
          · rw [hnm]
            exact HST.out.setPtr _
          · rw [World.cell?_setCell_other _ _ _ _ (by intro e'; simp only [Addr.mk.injEq] at e'; omega), hnm]
            exact ct
          · exact HB.out.setCell (p := ⟨t, 8, none⟩) (Nat.le_refl _) _

theorem zz_any (t g n : Nat) (F H Wd : Nat → Nat) (w : World) (hF : ∀ i, F i < 4294967296) (hH : ∀ i, H i < 256) (hW : ∀ i, Wd i < 256) (hn : n ≤ 1048576)
    (st : St w t g n (CN F H Wd (fun _ => 0)) (.pointer none)) :
    Calls Try.prog 12 #[.pointer (some ⟨t, 0, none⟩)] w fun e w' => (∃ r, e = .returned r) ∧ Left w t g n F H Wd w' := by
  have c := hid (count_any t g n F H Wd w hF hH hW hn st)
  clear st hF hH hW
  go_enter Try.func12, Try.ntmps12
  go_wp2_with fail
  refine (Hid.out c).mono ?_
  rintro e w1 ⟨⟨r, rfl⟩, hL⟩
  have HL := hid hL
  clear c hL
  go_wp2
  go_end0
  exact ⟨⟨_, rfl⟩, HL.out⟩

end Go.Proofs.Qxb6600263a
