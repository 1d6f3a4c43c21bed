import Derived.Test.Qxb6600263aLaw0
namespace Go.Proofs.Qxb6600263a
open Go.RowKit

theorem HL_b (f h wd p : Nat) (b : Bool) (hp : hl f h wd = p) (hb : hasHl f = b) (hf : f < 4294967296) (hh : h < 256) (hw : wd < 256) (w : World) :
    Calls Try.prog 14 #[.int .u32 (f : Int), .int .u8 (h : Int), .int .u8 (wd : Int)] w fun e w' => e = .returned (.tuple #[.int .i64 (p : Int), .bool b]) ∧ w' = w := by
  subst hp hb
  exact HL_any f h wd w hf hh hw
theorem below_drewN {B : Nat} {a w : World} (h : Below B a w) (q : Nat) : Below B a (w.drewN q) := ⟨h.os, h.tape, h.output, h.size, h.block⟩

set_option maxRecDepth 100000 in
set_option maxHeartbeats 4000000 in
theorem law_any (a0 a1 a2 : Option Addr) (n0 n1 n2 c0 c1 c2 : Nat) (fs hs ws : List Nat) (w : World) (h0 : IV .u32 w.heap.size w a0 n0 fs) (h1 : IV .u8 w.heap.size w a1 n1 hs) (h2 : IV .u8 w.heap.size w a2 n2 ws)
    (e0 : a0 = none → n0 = 0 ∧ c0 = 0) (e1 : a1 = none → n1 = 0 ∧ c1 = 0) (e2 : a2 = none → n2 = 0 ∧ c2 = 0) (hf : ∀ i, fs.getD i 0 < 4294967296) (hh : ∀ i, hs.getD i 0 < 256) (hw : ∀ i, ws.getD i 0 < 256) :
    Calls Try.prog 3 #[.slice a0 n0 c0, .slice a1 n1 c1, .slice a2 n2 c2] w fun e w' => e = .returned (.bool true) ∧ Below w.heap.size w w' := by
  by_cases hz : n0 + n1 + n2 ≤ 1048576
  · have hz7 := hid (zz7_true a0 a1 a2 n0 n1 n2 c0 c1 c2 w hz)
    by_cases g0 : n0 ≤ 65536 ∧ n1 ≤ 65536 ∧ n2 ≤ 65536
    · obtain ⟨g0, g1, g2⟩ := g0
      have g0' : ¬ (65536 : Int) < (n0 : Int) := by omega
      have g1' : ¬ (65536 : Int) < (n1 : Int) := by omega
      have g2' : ¬ (65536 : Int) < (n2 : Int) := by omega
      · have g4' : ¬ (1048576 : Int) < 4 * (n0 : Int) + (n1 : Int) + (n2 : Int) := by omega
        have H0 := hid h0
        have H1 := hid h1
        have H2 := hid h2
        have E0 := hid e0
        have E1 := hid e1
        have E2 := hid e2
        have HF := hid hf
        have HH := hid hh
        have HW := hid hw
        clear h0 h1 h2 e0 e1 e2 hf hh hw hz
        go_enter Try.func3, Try.ntmps3
        go_wp2_with fail
        refine (Hid.out hz7).mono ?_
        rintro e w1 ⟨he, hw⟩
        obtain rfl := hw.symm
        subst he
        clear hz7
        go_wp2_with fail
        refine (cloneU32_any a0 n0 c0 fs w w.heap.size H0.out (Nat.le_refl _) E0.out (by omega)).mono ?_
        rintro e w1 ⟨A0, he, hi0, hb1⟩
        subst he
        have HI0 := hid hi0
        have HB1 := hid hb1
        clear hi0 hb1
        go_wp2_with fail
        refine (cloneU8_any a1 n1 c1 hs w1 w.heap.size (H1.out.mono HB1.out) HB1.out.size E1.out (by omega)).mono ?_
        rintro e w2 ⟨A1, he, hi1, hb2⟩
        subst he
        have HI1 := hid hi1
        have HB2 := hid hb2
        clear hi1 hb2
        go_wp2_with fail
        have HB12 := hid (HB1.out.trans (HB2.out.mono HB1.out.size))
        refine (cloneU8_any a2 n2 c2 ws w2 w.heap.size (H2.out.mono HB12.out) HB12.out.size E2.out (by omega)).mono ?_
        rintro e w3 ⟨A2, he, hi2, hb3⟩
        subst he
        have HI2 := hid hi2
        have HB3 := hid hb3
        clear hi2 hb3
        have HB13 := hid (HB12.out.trans (HB3.out.mono HB12.out.size))
        go_wp2_with fail
        refine (min3_any n0 n1 n2 w3).mono ?_
        rintro e w4 ⟨he, hw⟩
        obtain rfl := hw.symm
        subst he
        obtain ⟨n, hn⟩ : ∃ n, n = min3 n0 n1 n2 := ⟨_, rfl⟩
        rw [← hn]
        have hnn : n ≤ n0 ∧ n ≤ n1 ∧ n ≤ n2 := by unfold min3 at hn; omega
        clear hn
        obtain ⟨k0, k1, k2⟩ := hnn
        go_wp2_with fail
        have I0 := ((HI0.out.mono HB2.out).up HB2.out.size).mono HB3.out |>.up HB3.out.size
        have I1 := (HI1.out.mono HB3.out).up HB3.out.size
        refine (build_any A0 A1 A2 n0 n1 n2 n0 n1 n2 n fs hs ws w3 I0 I1 HI2.out k0 k1 k2 (by omega)).mono ?_
        rintro e w4 ⟨he, st4, hb4⟩
        subst he
        have II := hid (And.intro I0 (And.intro I1 HI2.out))
        have HB4 := hid hb4
        have ST4 := hid st4
        clear I0 I1 st4 hb4
        go_wp2_with fail
        have hF := pre_lt (n := n) (by decide) HF.out
        have hH := pre_lt (n := n) (by decide) HH.out
        have hW := pre_lt (n := n) (by decide) HW.out
        refine (zz_any w3.heap.size (w3.heap.size + 1) n (pre fs n) (pre hs n) (pre ws n) w4 hF hH hW (by omega) ST4.out).mono ?_
        rintro e w5 ⟨⟨r, rfl⟩, hL⟩
        have hB5 : Below w.heap.size w w5 := by
          refine HB13.out.trans (Below.trans (HB4.out.mono HB13.out.size) ?_)
          exact hL.2.mono HB13.out.size
        have hB35 : Below w3.heap.size w3 w5 := HB4.out.trans hL.2
        have env : Env w5 A0 A1 A2 n (pre fs n) (pre hs n) (pre ws n) := ⟨env_row II.out.1 hB35 k0, env_row II.out.2.1 hB35 k1, env_row II.out.2.2 hB35 k2⟩
        have HL := hid hL.1
        have HB5 := hid hB5
        have ENV := hid env
        have FB := hid (And.intro hF (And.intro hH hW))
        clear hL hB5 hB35 env hF hH hW ST4 HB4 II HB13 HB3 HI2 HB12 HI1 HB2 HI0 HB1 H0 H1 H2 E0 E1 E2 HF HH HW g0' g1' g2' g4'
        obtain ⟨F, hFe⟩ : ∃ F, F = pre fs n := ⟨_, rfl⟩
        obtain ⟨H, hHe⟩ : ∃ F, F = pre hs n := ⟨_, rfl⟩
        obtain ⟨Wd, hWe⟩ : ∃ F, F = pre ws n := ⟨_, rfl⟩
        rw [← hFe, ← hHe, ← hWe] at HL ENV FB
        clear hFe hHe hWe
        obtain ⟨t, ht⟩ : ∃ t, t = w3.heap.size := ⟨_, rfl⟩
        rw [← ht] at HL ⊢
        clear ht
        rcases Nat.eq_zero_or_pos n with hn0 | hn0
        · subst hn0
          have st := HL.out.1 (Or.inl rfl)
          have s9 := st.hs
          have s8 := st.hp
          clear st
          go_wp2
          go_loopw [9] (fun i wr => i = .int .i64 0 ∧ wr = w5) (fun i _ => 0)
          case atStart => exact ⟨rfl, rfl⟩
          case round =>
            obtain ⟨rfl, rfl⟩ := hrel
            go_wp2
            go_loopw [11] (fun i wr' => i = .int .i64 0 ∧ wr' = wr) (fun i _ => 0)
            case atStart => exact ⟨rfl, rfl⟩
            case round =>
              obtain ⟨rfl, rfl⟩ := hrel
              go_wp2
              go_ret
              exact ⟨rfl, HB5.out⟩
        · have EX : Hid (∃ C p, St w5 t (t + 1) n C p ∧ ∃ U, C = CN F H Wd U) := by
            refine hid ?_
            cases hb : hasHl (F 0) with
            | false => exact ⟨_, _, HL.out.1 (Or.inr hb), _, rfl⟩
            | true =>
              obtain ⟨q, _, _, st, _⟩ := HL.out.2 hn0 hb
              exact ⟨_, _, st, _, rfl⟩
          obtain ⟨b0, o0, e0, -⟩ := ENV.out.z0 0 hn0
          obtain ⟨b1, o1, e1, -⟩ := ENV.out.z1 0 hn0
          obtain ⟨b2, o2, e2, -⟩ := ENV.out.z2 0 hn0
          subst e0 e1 e2
          have Z0 : Hid (∀ i, i < n → w5.cell? ⟨b0, o0 + i, none⟩ = some (.int .u32 ((F i : Nat) : Int))) := hid (fun i hi => by
            obtain ⟨b, o, e, h⟩ := ENV.out.z0 i hi
            simp only [Option.some.injEq, Addr.mk.injEq, and_true] at e
            obtain ⟨rfl, rfl⟩ := e
            exact h)
          have Z1 : Hid (∀ i, i < n → w5.cell? ⟨b1, o1 + i, none⟩ = some (.int .u8 ((H i : Nat) : Int))) := hid (fun i hi => by
            obtain ⟨b, o, e, h⟩ := ENV.out.z1 i hi
            simp only [Option.some.injEq, Addr.mk.injEq, and_true] at e
            obtain ⟨rfl, rfl⟩ := e
            exact h)
          have Z2 : Hid (∀ i, i < n → w5.cell? ⟨b2, o2 + i, none⟩ = some (.int .u8 ((Wd i : Nat) : Int))) := hid (fun i hi => by
            obtain ⟨b, o, e, h⟩ := ENV.out.z2 i hi
            simp only [Option.some.injEq, Addr.mk.injEq, and_true] at e
            obtain ⟨rfl, rfl⟩ := e
            exact h)
          have s9 : w5.cell? ⟨t, 9, none⟩ = some (.slice (some ⟨t + 1, 0, none⟩) n n) := by
            obtain ⟨C, p, st, _⟩ := EX.out
            exact st.hs
          have S9 := hid s9
          clear ENV
          go_wp2
          clear s9
          go_loopw [9] (fun i wr => ∃ k : Nat, k ≤ n ∧ i = .int .i64 k ∧ ∃ q, wr = w5.drewN q) (fun i _ => n - (intOf i).toNat)
          case atStart => exact ⟨0, Nat.zero_le _, rfl, 0, rfl⟩
          case round =>
            obtain ⟨k, hk, rfl, q, hq⟩ := hrel
            have HQ := hid hq
            by_cases hlt : k < n
            · have hkn0 : k < n0 := by omega
              have hkn1 : k < n1 := by omega
              have hkn2 : k < n2 := by omega
              obtain ⟨f, hfe⟩ : ∃ f, f = F k := ⟨_, rfl⟩
              obtain ⟨h, hhe⟩ : ∃ f, f = H k := ⟨_, rfl⟩
              obtain ⟨wd, hwe⟩ : ∃ f, f = Wd k := ⟨_, rfl⟩
              have s9 : wr.cell? ⟨t, 9, none⟩ = some (.slice (some ⟨t + 1, 0, none⟩) n n) := by rw [hq]; exact S9.out
              have x0 : wr.cell? ⟨b0, o0 + k, none⟩ = some (.int .u32 (f : Int)) := by rw [hq, hfe]; exact Z0.out k hlt
              have x1 : wr.cell? ⟨b1, o1 + k, none⟩ = some (.int .u8 (h : Int)) := by rw [hq, hhe]; exact Z1.out k hlt
              have x2 : wr.cell? ⟨b2, o2 + k, none⟩ = some (.int .u8 (wd : Int)) := by rw [hq, hwe]; exact Z2.out k hlt
              have N : Hid (∃ u, ∀ r, r < 40 → w5.cell? ⟨t + 1, k * 40 + r, none⟩ = some (nodeC f h wd u r)) := by
                obtain ⟨C, p, st, U, rfl⟩ := EX.out
                refine hid ⟨U k, fun r hr => ?_⟩
                rw [st.cell (k * 40 + r) (by omega), CN_at _ _ _ _ _ _ hr, hfe, hhe, hwe]
              have y0 : wr.cell? ⟨t + 1, k * 40, none⟩ = some (.int .u32 (f : Int)) := by
                obtain ⟨u, hu⟩ := N.out
                rw [hq]
                exact hu 0 (by omega)
              have y1 : wr.cell? ⟨t + 1, k * 40 + 1, none⟩ = some (.int .u8 (h : Int)) := by
                obtain ⟨u, hu⟩ := N.out
                rw [hq]
                exact hu 1 (by omega)
              have y14 : wr.cell? ⟨t + 1, k * 40 + 14, none⟩ = some (.int .u8 (wd : Int)) := by
                obtain ⟨u, hu⟩ := N.out
                rw [hq]
                exact hu 14 (by omega)
              clear hfe hhe hwe hq
              go_wp2
              go_quiet (fail)
              generalize hX : World.drewN _ _ = X
              have s9' : X.cell? ⟨t, 9, none⟩ = some (.slice (some ⟨t + 1, 0, none⟩) n n) := by rw [← hX, HQ.out]; exact S9.out
              have XQ : Hid (∃ q, X = w5.drewN q) := hid ⟨q + nq, by rw [← hX, HQ.out, World.drewN_drewN]⟩
              have NX : Hid (∃ u, ∀ r, r < 40 → X.cell? ⟨t + 1, k * 40 + r, none⟩ = some (nodeC f h wd u r)) := by
                obtain ⟨u, hu⟩ := N.out
                refine hid ⟨u, fun r hr => ?_⟩
                rw [← hX, HQ.out]
                exact hu r hr
              clear hX N HQ x0 x1 x2 y0 y1 y14 s9
              go_wp2_with fail
              obtain ⟨u, hu⟩ := NX.out
              refine (restZero_any (t + 1) (k * 40) f h wd u X hu).mono ?_
              rintro e w6 ⟨he, hw⟩
              obtain rfl := hw.symm
              subst he
              clear NX hu
              go_wp2
              go_roundw
              case rel => exact ⟨k + 1, by omega, by go_num, XQ.out⟩
              case measure => simp [intOf]; omega
            · obtain rfl : n = k := by omega
              clear hq hlt hk
              have x0 : wr.cell? ⟨b0, o0, none⟩ = some (.int .u32 ((F 0 : Nat) : Int)) := by rw [HQ.out]; exact Z0.out 0 hn0
              have x1 : wr.cell? ⟨b1, o1, none⟩ = some (.int .u8 ((H 0 : Nat) : Int)) := by rw [HQ.out]; exact Z1.out 0 hn0
              have x2 : wr.cell? ⟨b2, o2, none⟩ = some (.int .u8 ((Wd 0 : Nat) : Int)) := by rw [HQ.out]; exact Z2.out 0 hn0
              have hkn0 : 0 < n0 := by omega
              have hkn1 : 0 < n1 := by omega
              have hkn2 : 0 < n2 := by omega
              obtain ⟨P, hP⟩ : ∃ P : Nat → Nat, P = fun i => hl (F i) (H i) (Wd i) := ⟨_, rfl⟩
              have HPe : Hid (∀ i, hl (F i) (H i) (Wd i) = P i) := hid (fun i => by rw [hP])
              rw [← hP] at HL
              clear hP
              cases hb : hasHl (F 0) with
              | false =>
                have HBF := hid hb
                clear hb
                go_wp2
                go_quiet ((go_at_call 14; exact Calls.quiet_of_same (HL_b _ _ _ _ _ (HPe.out 0) HBF.out (FB.out.1 0) (FB.out.2.1 0) (FB.out.2.2 0) _)))
                generalize hX : World.drewN _ _ = X
                have XQ : Hid (∃ q, X = w5.drewN q) := hid ⟨q + nq, by rw [← hX, HQ.out, World.drewN_drewN]⟩
                have st : St X t (t + 1) n (CN F H Wd (fun _ => 0)) (.pointer none) := by
                  obtain ⟨q', e⟩ := XQ.out
                  rw [e]
                  exact (HL.out.1 (Or.inr HBF.out)).drewN q'
                have hBX : Below w.heap.size w X := by
                  obtain ⟨q', e⟩ := XQ.out
                  rw [e]
                  exact below_drewN HB5.out q'
                have HBX := hid hBX
                have s8 := st.hp
                have s9 := st.hs
                have ST := hid st
                clear hX HQ x0 x1 x2 st hBX XQ EX Z0 Z1 Z2 HL FB HPe
                go_wp2
                go_loopw [11] (fun i wr' => (∃ k : Nat, k ≤ n ∧ i = .int .i64 k) ∧ wr' = X) (fun i _ => n - (intOf i).toNat)
                case atStart => exact ⟨⟨0, Nat.zero_le _, rfl⟩, rfl⟩
                case round =>
                  obtain ⟨⟨k, hk, rfl⟩, rfl⟩ := hrel
                  by_cases hlt : k < n
                  · have y39 := ST.out.cell (k * 40 + 39) (by omega)
                    rw [CN_at _ _ _ _ _ _ (by omega)] at y39
                    change _ = some (Value.int .i64 0) at y39
                    go_wp2
                    go_roundw
                    case rel => exact ⟨⟨k + 1, by omega, by go_num⟩, by first | rfl | trivial⟩
                    case measure => simp [intOf]; omega
                  · obtain rfl : n = k := by omega
                    go_wp2
                    go_ret
                    exact ⟨rfl, HBX.out⟩
              | true =>
                have HBF := hid hb
                obtain ⟨q9, -, -, st5, ct5⟩ := HL.out.2 hn0 hb
                clear hb
                have ST5 := hid st5
                have CT5 := hid ct5
                clear st5 ct5 HL EX
                go_wp2
                go_quiet ((go_at_call 14; exact Calls.quiet_of_same (HL_b _ _ _ _ _ (HPe.out 0) HBF.out (FB.out.1 0) (FB.out.2.1 0) (FB.out.2.2 0) _)))
                generalize hX : World.drewN _ _ = X
                have XQ : Hid (∃ q, X = w5.drewN q) := hid ⟨q + nq, by rw [← hX, HQ.out, World.drewN_drewN]⟩
                have st : St X t (t + 1) n (CN F H Wd (Uk P (n - 1))) (.pointer (some ⟨q9, 0, none⟩)) := by
                  obtain ⟨q', e⟩ := XQ.out
                  rw [e]
                  exact ST5.out.drewN q'
                have s8 := st.hp
                have s9 := st.hs
                have y39 := st.cell 39 (by omega)
                have y39' : X.cell? ⟨t + 1, 39, none⟩ = some (.int .i64 0) := y39
                clear hX HQ x0 x1 x2 st y39
                go_wp2
                clear s8 s9 y39'
                go_loopw [13, 12] (fun i d wr' => ∃ k : Nat, k + 1 ≤ n ∧ i = .int .i64 ((k + 1 : Nat) : Int) ∧ d = .int .i64 ((defi P k : Nat) : Int) ∧ ∃ q, wr' = w5.drewN q) (fun i _ _ => n - (intOf i).toNat)
                case atStart => exact ⟨0, by omega, rfl, rfl, XQ.out⟩
                case round =>
                  clear XQ
                  obtain ⟨k, hk, rfl, rfl, q3, hq⟩ := hrel
                  have HQ := hid hq
                  clear hq
                  by_cases hlt : k + 1 < n
                  · obtain ⟨p, hp⟩ : ∃ p, p = P k := ⟨_, rfl⟩
                    obtain ⟨c, hc⟩ : ∃ c, c = P (k + 1) := ⟨_, rfl⟩
                    have hp' := HPe.out k
                    rw [← hp] at hp'
                    have hc' := HPe.out (k + 1)
                    rw [← hc] at hc'
                    have hpl : p < 256 := by rw [← hp']; exact hl_lt (FB.out.2.1 k) (FB.out.2.2 k)
                    have hcl : c < 256 := by rw [← hc']; exact hl_lt (FB.out.2.1 (k + 1)) (FB.out.2.2 (k + 1))
                    have x0 : wr.cell? ⟨b0, o0 + k, none⟩ = some (.int .u32 ((F k : Nat) : Int)) := by rw [HQ.out]; exact Z0.out k (by omega)
                    have x1 : wr.cell? ⟨b1, o1 + k, none⟩ = some (.int .u8 ((H k : Nat) : Int)) := by rw [HQ.out]; exact Z1.out k (by omega)
                    have x2 : wr.cell? ⟨b2, o2 + k, none⟩ = some (.int .u8 ((Wd k : Nat) : Int)) := by rw [HQ.out]; exact Z2.out k (by omega)
                    have m0 : k < n0 := by omega
                    have m1 : k < n1 := by omega
                    have m2 : k < n2 := by omega
                    have m0' : k + 1 < n0 := by omega
                    have m1' : k + 1 < n1 := by omega
                    have m2' : k + 1 < n2 := by omega
                    have HP1 := hid hp'
                    have HC1 := hid hc'
                    have HPC := hid (And.intro hp hc)
                    clear hp' hc' hp hc
                    go_wp2
                    go_quiet ((go_at_call 14; exact Calls.quiet_of_same (HL_b _ _ _ _ _ HP1.out rfl (FB.out.1 k) (FB.out.2.1 k) (FB.out.2.2 k) _)))
                    generalize hX : World.drewN _ _ = Y
                    have YQ : Hid (∃ q, Y = w5.drewN q) := hid ⟨q3 + nq, by rw [← hX, HQ.out, World.drewN_drewN]⟩
                    clear x0 x1 x2 HQ hX
                    have x0 : Y.cell? ⟨b0, o0 + (k + 1), none⟩ = some (.int .u32 ((F (k + 1) : Nat) : Int)) := by obtain ⟨q', e⟩ := YQ.out; rw [e]; exact Z0.out (k + 1) hlt
                    have x1 : Y.cell? ⟨b1, o1 + (k + 1), none⟩ = some (.int .u8 ((H (k + 1) : Nat) : Int)) := by obtain ⟨q', e⟩ := YQ.out; rw [e]; exact Z1.out (k + 1) hlt
                    have x2 : Y.cell? ⟨b2, o2 + (k + 1), none⟩ = some (.int .u8 ((Wd (k + 1) : Nat) : Int)) := by obtain ⟨q', e⟩ := YQ.out; rw [e]; exact Z2.out (k + 1) hlt
                    go_wp2
                    go_quiet ((go_at_call 14; exact Calls.quiet_of_same (HL_b _ _ _ _ _ HC1.out rfl (FB.out.1 (k + 1)) (FB.out.2.1 (k + 1)) (FB.out.2.2 (k + 1)) _)))
                    generalize hX : World.drewN _ _ = Z
                    have ZQ : Hid (∃ q, Z = w5.drewN q) := by
                      obtain ⟨q', e⟩ := YQ.out
                      exact hid ⟨q' + nq, by rw [← hX, e, World.drewN_drewN]⟩
                    clear x0 x1 x2 YQ hX
                    have st : St Z t (t + 1) n (CN F H Wd (Uk P (n - 1))) (.pointer (some ⟨q9, 0, none⟩)) := by
                      obtain ⟨q', e⟩ := ZQ.out
                      rw [e]
                      exact ST5.out.drewN q'
                    have s9 := st.hs
                    have y39 := st.cell ((k + 1) * 40 + 39) (by omega)
                    rw [CN_at _ _ _ _ _ _ (by omega)] at y39
                    change _ = some (Value.int .i64 ((Uk P (n - 1) (k + 1) : Nat) : Int)) at y39
                    rw [Uk_at (by omega), ← HPC.out.1, ← HPC.out.2] at y39
                    have hD : defi P k < 1000000000 := by
                      have := defi_le (P := P) (fun i => by rw [← HPe.out i]; exact hl_lt (FB.out.2.1 i) (FB.out.2.2 i)) k
                      omega
                    clear st
                    by_cases hgp : c + 2 ≤ p
                    · have hG : gap p c = p - c - 1 := by unfold gap; rw [if_pos hgp]
                      obtain ⟨G, hGe⟩ : ∃ G, G = p - c - 1 := ⟨_, rfl⟩
                      rw [hG, ← hGe] at y39
                      have g5 : (p : Int) - (c : Int) - 1 = (G : Int) := by omega
                      have hdk : defi P (k + 1) = defi P k := by
                        show defi P k + _ = _
                        rw [← HPC.out.1, ← HPC.out.2, if_pos hgp]
                        rfl
                      have HDK := hid hdk
                      clear hG hGe hdk
                      go_wp2
                      go_roundw
                      case rel => exact ⟨k + 1, by omega, by go_num, by rw [HDK.out], ZQ.out⟩
                      case measure => simp [intOf]; omega
                    · have hG : gap p c = 0 := by unfold gap; rw [if_neg hgp]
                      rw [hG] at y39
                      change _ = some (Value.int .i64 0) at y39
                      obtain ⟨D, hDe⟩ : ∃ D, D = c + 1 - p := ⟨_, rfl⟩
                      have g5 : (c : Int) + 1 - (p : Int) = (D : Int) := by omega
                      have g6 : ¬ (c : Int) + 2 ≤ (p : Int) := by omega
                      have hdl : D < 1000 := by omega
                      have hdk : defi P (k + 1) = defi P k + D := by
                        show defi P k + _ = _
                        rw [← HPC.out.1, ← HPC.out.2, if_neg hgp, hDe]
                      have HDK := hid hdk
                      clear hG hDe hdk hgp
                      go_wp2
                      go_roundw
                      case rel => exact ⟨k + 1, by omega, by go_num, by rw [HDK.out]; rfl, ZQ.out⟩
                      case measure => simp [intOf]; omega
                  · obtain ⟨m, hm⟩ : ∃ m, m = k := ⟨_, rfl⟩
                    have hnk : n = k + 1 := by omega
                    have hnk1 : n - 1 = k := by omega
                    obtain ⟨p, hp⟩ : ∃ p, p = P 0 := ⟨_, rfl⟩
                    obtain ⟨c, hc⟩ : ∃ c, c = P k := ⟨_, rfl⟩
                    have hp' := HPe.out 0
                    rw [← hp] at hp'
                    have hc' := HPe.out k
                    rw [← hc] at hc'
                    have hpl : p < 256 := by rw [← hp']; exact hl_lt (FB.out.2.1 0) (FB.out.2.2 0)
                    have hcl : c < 256 := by rw [← hc']; exact hl_lt (FB.out.2.1 k) (FB.out.2.2 k)
                    have x0 : wr.cell? ⟨b0, o0, none⟩ = some (.int .u32 ((F 0 : Nat) : Int)) := by rw [HQ.out]; exact Z0.out 0 hn0
                    have x1 : wr.cell? ⟨b1, o1, none⟩ = some (.int .u8 ((H 0 : Nat) : Int)) := by rw [HQ.out]; exact Z1.out 0 hn0
                    have x2 : wr.cell? ⟨b2, o2, none⟩ = some (.int .u8 ((Wd 0 : Nat) : Int)) := by rw [HQ.out]; exact Z2.out 0 hn0
                    have x0' : wr.cell? ⟨b0, o0 + k, none⟩ = some (.int .u32 ((F k : Nat) : Int)) := by rw [HQ.out]; exact Z0.out k (by omega)
                    have x1' : wr.cell? ⟨b1, o1 + k, none⟩ = some (.int .u8 ((H k : Nat) : Int)) := by rw [HQ.out]; exact Z1.out k (by omega)
                    have x2' : wr.cell? ⟨b2, o2 + k, none⟩ = some (.int .u8 ((Wd k : Nat) : Int)) := by rw [HQ.out]; exact Z2.out k (by omega)
                    have m0 : k < n0 := by omega
                    have m1 : k < n1 := by omega
                    have m2 : k < n2 := by omega
                    have hT := tot_eq P k
                    rw [← hp, ← hc] at hT
                    have hD : defi P k < 1000000000 := by
                      have := defi_le (P := P) (fun i => by rw [← HPe.out i]; exact hl_lt (FB.out.2.1 i) (FB.out.2.2 i)) k
                      omega
                    have st : St wr t (t + 1) n (CN F H Wd (Uk P (n - 1))) (.pointer (some ⟨q9, 0, none⟩)) := by
                      rw [HQ.out]
                      exact ST5.out.drewN _
                    have s8 := st.hp
                    have ct := CT5.out
                    rw [hnk1] at ct
                    have ct' : wr.cell? ⟨q9, 0, none⟩ = some (.int .i64 ((tot P k : Nat) : Int)) := by rw [HQ.out]; exact ct
                    obtain ⟨D, hDD⟩ : ∃ D, D = defi P k := ⟨_, rfl⟩
                    obtain ⟨T, hTT⟩ : ∃ T, T = tot P k := ⟨_, rfl⟩
                    rw [← hDD] at hT hD ⊢
                    rw [← hTT] at hT ct'
                    have hT' : (T : Int) = (p : Int) - (c : Int) - (k : Int) + (D : Int) := hT
                    have hTe : (p : Int) - (c : Int) - (k : Int) + (D : Int) = (T : Int) := hT'.symm
                    have hTl : T < 2000000000 := by omega
                    have HP1 := hid hp'
                    have HC1 := hid hc'
                    have HB : Hid (Below w.heap.size w wr) := by rw [HQ.out]; exact hid (below_drewN HB5.out _)
                    have hlt' : ¬ (k : Int) + 1 < (n : Int) := by omega
                    clear hp' hc' hp hc hT hT' ct st hDD hTT HQ hnk1 hm hlt m
                    subst hnk
                    go_wp2
                    go_quiet ((go_at_call 14; exact Calls.quiet_of_same (HL_b _ _ _ _ _ HP1.out rfl (FB.out.1 0) (FB.out.2.1 0) (FB.out.2.2 0) _)))
                    generalize hX : World.drewN _ _ = Y
                    have y0 : Y.cell? ⟨b0, o0 + k, none⟩ = some (.int .u32 ((F k : Nat) : Int)) := by rw [← hX]; exact x0'
                    have y1 : Y.cell? ⟨b1, o1 + k, none⟩ = some (.int .u8 ((H k : Nat) : Int)) := by rw [← hX]; exact x1'
                    have y2 : Y.cell? ⟨b2, o2 + k, none⟩ = some (.int .u8 ((Wd k : Nat) : Int)) := by rw [← hX]; exact x2'
                    have y8 : Y.cell? ⟨t, 8, none⟩ = some (.pointer (some ⟨q9, 0, none⟩)) := by rw [← hX]; exact s8
                    have yt : Y.cell? ⟨q9, 0, none⟩ = some (.int .i64 (T : Int)) := by rw [← hX]; exact ct'
                    have HBY : Hid (Below w.heap.size w Y) := by rw [← hX]; exact hid (below_drewN HB.out _)
                    clear hX x0 x1 x2 x0' x1' x2' s8 ct' HB
                    go_wp2
                    go_quiet ((go_at_call 14; exact Calls.quiet_of_same (HL_b _ _ _ _ _ HC1.out rfl (FB.out.1 k) (FB.out.2.1 k) (FB.out.2.2 k) _)))
                    go_wp2
                    go_ret
                    exact ⟨rfl, below_drewN HBY.out _⟩
    · have g0' : (65536 : Int) < (n0 : Int) ∨ (65536 : Int) < (n1 : Int) ∨ (65536 : Int) < (n2 : Int) := by omega
      clear h0 h1 h2 e0 e1 e2 hf hh hw hz g0
      by_cases g1 : (65536 : Int) < (n0 : Int)
      · go_enter Try.func3, Try.ntmps3
        go_wp2_with fail
        refine (Hid.out hz7).mono ?_
        rintro e w1 ⟨he, hw⟩
        obtain rfl := hw.symm
        subst he
        clear g0'
        go_wp2
        go_ret
        exact ⟨rfl, Below.refl _ _⟩
      by_cases g2 : (65536 : Int) < (n1 : Int)
      · go_enter Try.func3, Try.ntmps3
        go_wp2_with fail
        refine (Hid.out hz7).mono ?_
        rintro e w1 ⟨he, hw⟩
        obtain rfl := hw.symm
        subst he
        clear g0'
        go_wp2
        go_ret
        exact ⟨rfl, Below.refl _ _⟩
      have g3 : (65536 : Int) < (n2 : Int) := by omega
      go_enter Try.func3, Try.ntmps3
      go_wp2_with fail
      refine (Hid.out hz7).mono ?_
      rintro e w1 ⟨he, hw⟩
      obtain rfl := hw.symm
      subst he
      clear g0'
      go_wp2
      go_ret
      exact ⟨rfl, Below.refl _ _⟩
  · have hz7 := hid (zz7_false a0 a1 a2 n0 n1 n2 c0 c1 c2 w hz)
    clear h0 h1 h2 e0 e1 e2 hf hh hw hz
    go_enter Try.func3, Try.ntmps3
    go_wp2_with fail
    refine (Hid.out hz7).mono ?_
    rintro e w1 ⟨he, hw⟩
    obtain rfl := hw.symm
    subst he
    go_wp2
    go_ret
    exact ⟨rfl, Below.refl _ _⟩

end Go.Proofs.Qxb6600263a
