import Derived.Test.Qxb6600244aModel
import Derived.Test.Qxb6600244aBs
namespace Go.Proofs.Qxb6600244a
open Go.RowKit

/-- A row of slices that lead to the bytes of L: the row's block below R, the bytes' below B. -/
structure RowV (R B : Nat) (w : World) (a : Option Addr) (n : Nat) (L : List (List Nat)) : Prop where
  len : L.length = n
  cell : ∀ i, i < n → ∃ b off ai ni ci, a = some ⟨b, off, none⟩ ∧ b < R ∧ w.cell? ⟨b, off + i, none⟩ = some (.slice ai ni ci) ∧ BV B w ai ni (L.getD i [])

theorem RowV.mono {R B : Nat} {w w' : World} {a : Option Addr} {n : Nat} {L : List (List Nat)} (h : RowV R B w a n L) (hR : Below R w w') (hB : Below B w w') : RowV R B w' a n L :=
  ⟨h.len, fun i hi => by
    obtain ⟨b, off, ai, ni, ci, e, hb, hc, hv⟩ := h.cell i hi
    exact ⟨b, off, ai, ni, ci, e, hb, (hR.cell (p := ⟨b, off + i, none⟩) hb).trans hc, hv.mono hB⟩⟩
theorem RowV.nil (R B : Nat) (w : World) (a : Option Addr) : RowV R B w a 0 [] := ⟨rfl, fun i hi => by omega⟩
theorem RowV.of {base B n c : Nat} {w : World} {a : Option Addr} {vs : List Value} {L : List (List Nat)} (ho : w.ownsRow base 22 1 (.slice a n c) n vs) (hi : Its B w vs n L) (hL : L.length = n) : RowV w.heap.size B w a n L := by
  refine ⟨hL, fun i h => ?_⟩
  obtain ⟨gr, u, rfl, _, hc, _⟩ := own_at ho h
  obtain ⟨ai, ni, ci, h1, h2⟩ := hi i h
  have hc2 := ho.cellAt i (by omega)
  rw [h1] at hc2
  refine ⟨gr, 0, ai, ni, ci, rfl, World.block_lt_of_cell? w _ hc2, ?_, h2⟩
  rw [Nat.zero_add]
  exact hc2

/-- What behind a call of the model is known: items, position, failure. -/
def Mbd (B : Nat) (w : World) (n : Nat) (s : St) (e : Ending) (w' : World) : Prop :=
  ∃ (ra : Option Addr) (rc p : Nat), e = .returned (.tuple #[.slice ra (arrS s).1 rc, .int .i64 (p : Int), .bool (bsS s).2.fl]) ∧ p ≤ n ∧ s.zs.drop p = (bsS s).2.zs ∧ RowV w'.heap.size B w' ra (arrS s).1 (bsS s).1 ∧ Below w.heap.size w w'

/-- What a round of the model hands on. -/
def RelM (B : Nat) (w : World) (zs : List Nat) (n g : Nat) (s : St) (N k P : Nat) (wr : World) : Prop :=
  ∃ vs, wr.ownsRow w.heap.size 22 1 (.slice (some ⟨g, 0, none⟩) N N) N vs ∧ Its B wr vs k (runS s k).1 ∧ (∀ j, k ≤ j → j < N → vs[j]? = some (.slice none 0 0)) ∧ P ≤ n ∧ zs.drop P = (runS s k).2.zs ∧ Below w.heap.size w wr

/-- A round that stores nothing: the item is empty. -/
theorem relM_skip {B : Nat} {w wr : World} {zs : List Nat} {n g : Nat} {s : St} {N k P P' : Nat} (h : RelM B w zs n g s N k P wr) (hk : k < N) (h1 : (oneS (runS s k).2).1 = []) (h2 : zs.drop P' = (oneS (runS s k).2).2.zs) (hP : P' ≤ n) :
    RelM B w zs n g s N (k + 1) P' wr := by
  obtain ⟨vs, ho, hi, hz, _, _, hb⟩ := h
  have hl := ho.1
  have hk0 := hz k (Nat.le_refl _) hk
  refine ⟨vs, ho, fun j hj => ?_, fun j h3 h4 => hz j (by omega) h4, hP, h2, hb⟩
  by_cases e : j = k
  · subst e
    exact ⟨none, 0, 0, hk0, by rw [runS_last, h1]; exact BV.nil _ _ _⟩
  · obtain ⟨aj, nj, cj, g1, g2⟩ := hi j (by omega)
    exact ⟨aj, nj, cj, g1, by rw [runS_get s k j (by omega)]; exact g2⟩

/-- A round that stores an item. -/
theorem relM_store {B : Nat} {w wr : World} {zs : List Nat} {n g : Nat} {s : St} {N k P P' : Nat} (h : RelM B w zs n g s N k P wr) (hg : w.heap.size ≤ g) (hB : B ≤ w.heap.size) (hk : k < N) {ia : Option Addr} {ni ci : Nat} (hv : BV B wr ia ni (oneS (runS s k).2).1)
    (h2 : zs.drop P' = (oneS (runS s k).2).2.zs) (hP : P' ≤ n) : RelM B w zs n g s N (k + 1) P' (wr.setCell ⟨g, k, none⟩ (.slice ia ni ci)) := by
  obtain ⟨vs, ho, hi, hz, _, _, hb⟩ := h
  have hl := ho.1
  have hb1 : Below B wr (wr.setCell ⟨g, k, none⟩ (.slice ia ni ci)) := (Below.refl B wr).setCell (p := ⟨g, k, none⟩) (by show B ≤ g; omega) _
  refine ⟨vs.set k (.slice ia ni ci), (ho.stored k (.slice ia ni ci)).1, (hi.step hv (by omega)).mono hb1, fun j h3 h4 => ?_, hP, h2, hb.setCell (p := ⟨g, k, none⟩) hg _⟩
  rw [List.getElem?_set_ne (by omega)]
  exact hz j (by omega) h4

set_option maxRecDepth 100000 in
set_option maxHeartbeats 4000000 in
theorem modelBs_any (a : Option Addr) (n c : Nat) (s : St) (w : World) (B : Nat) (hBw : B ≤ w.heap.size) (hB : BV B w a n s.zs) (hn : n ≤ 1048576) (hnc : n ≤ c) :
    Calls Try.prog 20 #[.slice a n c, .bool s.fl] w fun e w' => Mbd B w n s e w' := by
  obtain ⟨zs, fl⟩ := s
  simp only at hB
  have hlen := hB.len
  cases fl with
  | true =>
    have F : Mbd B w n ⟨zs, true⟩ (.returned (.tuple #[.slice none 0 0, .int .i64 0, .bool true])) w := by
      have e : arrS ⟨zs, true⟩ = (0, ⟨zs, true⟩) := arrS_failed rfl
      have e2 : bsS ⟨zs, true⟩ = ([], ⟨zs, true⟩) := by unfold bsS; rw [e]; rfl
      unfold Mbd
      rw [e, e2]
      exact ⟨none, 0, 0, rfl, Nat.zero_le _, rfl, RowV.nil _ _ _ _, Below.refl _ _⟩
    go_enter Try.func20, Try.ntmps20
    go_wp2
    go_ret3
    exact F
  | false =>
    cases hh : hd 128 zs with
    | none =>
      have C := modelHead_none 128 n c 0 a zs w B hB (by omega) (by omega) hn (Nat.zero_le _) hh
      have F : Mbd B w n ⟨zs, false⟩ (.returned (.tuple #[.slice none 0 0, .int .i64 0, .bool true])) w := by
        have e : arrS ⟨zs, false⟩ = (0, ⟨zs, true⟩) := arrS_none hh
        have e2 : bsS ⟨zs, false⟩ = ([], ⟨zs, true⟩) := by unfold bsS; rw [e]; rfl
        unfold Mbd
        rw [e, e2]
        exact ⟨none, 0, 0, rfl, Nat.zero_le _, rfl, RowV.nil _ _ _ _, Below.refl _ _⟩
      clear hh hB
      go_enter Try.func20, Try.ntmps20
      go_wp2_with (go_at_call 28; refine C.mono ?_; rintro e w' ⟨rfl, hw⟩; obtain rfl := hw.symm)
      go_ret3
      exact F
    | some q =>
      obtain ⟨N, k0⟩ := q
      have hks := hd_some hh
      have hNl := hd_lt hB.lt hh
      have C := modelHead_some 128 n c 0 N k0 a zs w B hB (by omega) (by omega) hn hh
      have hdl : (zs.drop k0).length = n - k0 := by rw [List.length_drop]; omega
      rw [Nat.zero_add] at C
      by_cases hv : n - k0 < N
      · have F : Mbd B w n ⟨zs, false⟩ (.returned (.tuple #[.slice none 0 0, .int .i64 (k0 : Int), .bool true])) w := by
          have e : arrS ⟨zs, false⟩ = (0, ⟨zs.drop k0, true⟩) := arrS_short hh (by omega)
          have e2 : bsS ⟨zs, false⟩ = ([], ⟨zs.drop k0, true⟩) := by unfold bsS; rw [e]; rfl
          unfold Mbd
          rw [e, e2]
          exact ⟨none, 0, k0, rfl, by omega, rfl, RowV.nil _ _ _ _, Below.refl _ _⟩
        have hvi : (n : Int) - (k0 : Int) < (N : Int) := by omega
        have hk0 : (k0 : Int) ≤ (n : Int) := by omega
        clear hh hB hdl
        go_enter Try.func20, Try.ntmps20
        go_wp2_with (go_at_call 28; refine C.mono ?_; rintro e w' ⟨rfl, hw⟩; obtain rfl := hw.symm)
        go_ret3
        exact F
      · have hvi : (N : Int) ≤ (n : Int) - (k0 : Int) := by omega
        have hk0 : (k0 : Int) ≤ (n : Int) := by omega
        have hN : N ≤ 1048576 := by omega
        have earr : arrS ⟨zs, false⟩ = (N, ⟨zs.drop k0, false⟩) := arrS_some hh (by omega)
        obtain ⟨s1, hs1⟩ : ∃ s1 : St, s1 = ⟨zs.drop k0, false⟩ := ⟨_, rfl⟩
        rw [← hs1] at earr
        have ebs : bsS ⟨zs, false⟩ = runS s1 N := by unfold bsS; rw [earr]
        have hmd : ∀ (ra : Option Addr) (P : Nat) (w' : World), P ≤ n → zs.drop P = (runS s1 N).2.zs → RowV w'.heap.size B w' ra N (runS s1 N).1 → Below w.heap.size w w' → Mbd B w n ⟨zs, false⟩ (.returned (.tuple #[.slice ra N N, .int .i64 (P : Int), .bool (runS s1 N).2.fl])) w' := by
          intro ra P w' h1 h2 h3 h4
          unfold Mbd
          rw [earr, ebs]
          exact ⟨ra, N, P, rfl, h1, h2, h3, h4⟩
        have HMD := (show Hid _ from hmd)
        have HS1 : Hid (s1 = ⟨zs.drop k0, false⟩) := hs1
        clear hh hdl earr ebs hmd hs1 hv
        obtain ⟨i0, hi, hz0, hz1, hz2⟩ := info_parts Try.info22
        go_enter Try.func20, Try.ntmps20
        go_wp2_with (first | (go_at_call 28; refine C.mono ?_; rintro e w' ⟨rfl, hw⟩; obtain rfl := hw.symm) | (at_make; refine wpList_make_full _ rfl _ _ 36 rfl w.heap.size 22 i0 (.slice none 0 0) 1 Try.underlying36 hi hz0 hz1 _ _ _ _ N rfl rfl rfl rfl ?b2 ?b3 ?b4 ?_))
        case b2 => rw [hz2]; omega
        case b3 => unfold maxLen; omega
        case b4 => exact Nat.le_refl _
        intro w2 hown2 hgrow2
        have hbl2 : Below w.heap.size w w2 := (Below.refl _ _).grown hgrow2 (Nat.le_refl _) (by simp)
        have hrel0 : RelM B w zs n w.heap.size s1 N 0 k0 w2 := by
          refine ⟨_, hown2, Its.zero _ _ _ _, fun j _ hj => ?_, by omega, by rw [HS1.out]; rfl, hbl2⟩
          rw [toList_madeCells_one, List.getElem?_replicate, if_pos hj]
        have HB0 := (show Hid _ from hrel0)
        have hfl0 : (runS s1 0).2.fl = false := by rw [HS1.out]; rfl
        have HF0 := (show Hid _ from hfl0)
        clear hown2 hgrow2 hbl2 hi hz0 hz1 hz2 C hrel0 hfl0
        go_wp2
        go_loopw [8, 11, 12] (fun p f i wr => ∃ k P : Nat, k ≤ N ∧ i = .int .i64 k ∧ p = .int .i64 P ∧ f = .bool (runS s1 k).2.fl ∧ RelM B w zs n w.heap.size s1 N k P wr) (fun _ _ i _ => N - (intOf i).toNat)
        case atStart => exact ⟨0, k0, Nat.zero_le _, rfl, rfl, by rw [HF0.out], HB0.out⟩
        case round =>
          clear HB0 HF0
          obtain ⟨k, P, hk, rfl, rfl, rfl, hrl⟩ := hrel
          have hPn : P ≤ n := hrl.choose_spec.2.2.2.1
          have hPz : zs.drop P = (runS s1 k).2.zs := hrl.choose_spec.2.2.2.2.1
          have hbw : Below B w wr := hrl.choose_spec.2.2.2.2.2.mono hBw
          by_cases hlt : k < N
          · have hlti : (k : Int) < (N : Int) := by omega
            obtain ⟨gr, u, hge, _, hcu, hfu⟩ := own_at hrl.choose_spec.1 hlt
            simp only [Option.some.injEq, Addr.mk.injEq, and_true] at hge
            subst hge
            obtain ⟨fk, hfk⟩ : ∃ fk, fk = (runS s1 k).2.fl := ⟨_, rfl⟩
            have hσ : (runS s1 k).2 = ⟨zs.drop P, fk⟩ := by rw [hPz, hfk]
            rw [← hfk]
            clear hfk hPz
            cases fk with
            | true =>
              have h1 := oneS_failed (s := ⟨zs.drop P, true⟩) rfl
              have R := relM_skip (P' := P) hrl hlt (by rw [hσ, h1]) (by rw [hσ, h1]) hPn
              have HR := (show Hid _ from R)
              have HF : Hid ((runS s1 (k + 1)).2.fl = true) := by show (oneS (runS s1 k).2).2.fl = true; rw [hσ, h1]
              clear hσ hrl h1 R
              go_wp2
              go_roundw
              case rel => exact ⟨k + 1, P, by omega, by go_num, rfl, by rw [HF.out], HR.out⟩
              case measure => simp [intOf]; omega
            | false =>
              have hBr := hB.mono hbw
              cases h2 : hd 64 (zs.drop P) with
              | none =>
                have C := modelHead_none 64 n c P a zs wr B hBr (by omega) (by omega) hn hPn h2
                have h1 := oneS_none h2
                have R := relM_skip (P' := P) hrl hlt (by rw [hσ, h1]) (by rw [hσ, h1]) hPn
                have HR := (show Hid _ from R)
                have HF : Hid ((runS s1 (k + 1)).2.fl = true) := by show (oneS (runS s1 k).2).2.fl = true; rw [hσ, h1]
                clear hσ hrl h1 R h2 hBr hB
                go_wp2_with (go_at_call 28; refine C.mono ?_; rintro e w' ⟨rfl, hw⟩; obtain rfl := hw.symm)
                go_roundw
                case rel => exact ⟨k + 1, P, by omega, by go_num, rfl, by rw [HF.out], HR.out⟩
                case measure => simp [intOf]; omega
              | some q =>
                obtain ⟨l, kk⟩ := q
                have hks2 := hd_some h2
                have hll := hd_lt (fun z hz => hB.lt z (List.mem_of_mem_drop hz)) h2
                have C := modelHead_some 64 n c P l kk a zs wr B hBr (by omega) (by omega) hn h2
                have hdl2 : (zs.drop P).length = n - P := by rw [List.length_drop]; omega
                obtain ⟨P2, hP2⟩ : ∃ P2, P2 = P + kk := ⟨_, rfl⟩
                rw [← hP2] at C
                have hP2n : P2 ≤ n := by omega
                have hP2i : (P2 : Int) ≤ (n : Int) := by omega
                have hdd : (zs.drop P).drop kk = zs.drop P2 := by rw [List.drop_drop, hP2]
                by_cases hv : n - P2 < l
                · have h1 := oneS_short h2 (by rw [hdd, List.length_drop]; omega)
                  rw [hdd] at h1
                  have R := relM_skip (P' := P2) hrl hlt (by rw [hσ, h1]) (by rw [hσ, h1]) hP2n
                  have HR := (show Hid _ from R)
                  have HF : Hid ((runS s1 (k + 1)).2.fl = true) := by show (oneS (runS s1 k).2).2.fl = true; rw [hσ, h1]
                  have hvi2 : (n : Int) - (P2 : Int) < (l : Int) := by omega
                  clear hσ hrl h1 R h2 hBr hB hP2 hdd hdl2
                  go_wp2_with (go_at_call 28; refine C.mono ?_; rintro e w' ⟨rfl, hw⟩; obtain rfl := hw.symm)
                  go_roundw
                  case rel => exact ⟨k + 1, P2, by omega, by go_num, rfl, by rw [HF.out], HR.out⟩
                  case measure => simp [intOf]; omega
                · have h1 := oneS_some h2 (by rw [hdd, List.length_drop]; omega)
                  rw [hdd] at h1
                  have hvi2 : (l : Int) ≤ (n : Int) - (P2 : Int) := by omega
                  have hst : ∀ (x : Option Addr) (cx : Nat), (¬ c = P2 → x = a.map (·.add P2)) → RelM B w zs n w.heap.size s1 N (k + 1) (P2 + l) (wr.setCell ⟨w.heap.size, k, none⟩ (.slice x l cx)) := by
                    intro x cx hx
                    have v1 := (hBr.dropIf (m := P2) (c := c) hnc hx).take (m := l) (by omega)
                    exact relM_store (P' := P2 + l) hrl (Nat.le_refl _) hBw hlt (by rw [hσ, h1]; exact v1) (by rw [hσ, h1]; simp [List.drop_drop]) (by omega)
                  have HST := (show Hid _ from hst)
                  have HF : Hid ((runS s1 (k + 1)).2.fl = false) := by show (oneS (runS s1 k).2).2.fl = false; rw [hσ, h1]
                  have hle1 : (P2 : Int) ≤ (P2 : Int) + (l : Int) := by omega
                  have hle2 : (P2 : Int) + (l : Int) ≤ (c : Int) := by omega
                  have htn : ((P2 : Int) + (l : Int)).toNat = P2 + l := by omega
                  clear hσ hrl h1 h2 hBr hB hP2 hdd hdl2 hst
                  by_cases hcp : c = P2
                  · subst hcp
                    obtain rfl : l = 0 := by omega
                    go_wp2_with (go_at_call 28; refine C.mono ?_; rintro e w' ⟨rfl, hw⟩; obtain rfl := hw.symm)
                    go_roundw
                    case rel => exact ⟨k + 1, c, by omega, by go_num, by go_num, by rw [HF.out], by simpa using HST.out _ _ (fun h => by first | exact absurd rfl h | exact absurd trivial h)⟩
                    case measure => simp [intOf]; omega
                  · go_wp2_with (go_at_call 28; refine C.mono ?_; rintro e w' ⟨rfl, hw⟩; obtain rfl := hw.symm)
                    go_roundw
                    case rel => exact ⟨k + 1, P2 + l, by omega, by go_num, by go_num, by rw [HF.out], by simpa using HST.out _ _ (fun _ => rfl)⟩
                    case measure => simp [intOf]; omega
          · obtain rfl : k = N := by omega
            have R := hrl.choose_spec
            have F := HMD.out _ P wr hPn hPz (RowV.of R.1 R.2.1 (runS_length _ _)) R.2.2.2.2.2
            have HFF := (show Hid _ from F)
            clear R F hrl hPz hB HMD
            go_wp2
            go_ret3
            exact HFF.out

end Go.Proofs.Qxb6600244a
