import Derived.Test.Qxb6600244aBs
import Derived.Deep.RegionWith
namespace Go.Proofs.Qxb6600244a
open Go.RowKit

theorem runS_shrinks (s : St) : ∀ k, (runS s k).2.zs.length ≤ s.zs.length
  | 0 => Nat.le_refl _
  | k + 1 => Nat.le_trans (oneS_shrinks _) (runS_shrinks s k)
where
  oneS_shrinks (s : St) : (oneS s).2.zs.length ≤ s.zs.length := by
    unfold oneS
    split
    · exact Nat.le_refl _
    · split
      · exact Nat.le_refl _
      · split
        · simp
        · simp

theorem arrS_shrinks (s : St) : (arrS s).2.zs.length ≤ s.zs.length := by
  unfold arrS
  split
  · exact Nat.le_refl _
  · split
    · exact Nat.le_refl _
    · split
      · simp
      · simp

/-- What behind a call of byteStrings is known. -/
def Bsd (B base : Nat) (w : World) (g : Nat) (s : St) (e : Ending) (w' : World) : Prop :=
  ∃ ra rc, e = .returned (.slice ra (arrS s).1 rc) ∧ Rel B base w g (arrS s).2 ra (arrS s).1 rc (arrS s).1 w'

set_option maxRecDepth 100000 in
set_option maxHeartbeats 8000000 in
theorem byteStrings_any (g : Nat) (s : St) (va : Option Addr) (vn : Nat) (vs0 : List Value) (w : World) (B base : Nat) (hB : B ≤ g) (hBb : B ≤ base) (hbase : base ≤ w.heap.size) (h : Reads B w g s) (hl0 : s.zs.length ≤ 2097152)
    (hown0 : w.ownsRow base 22 1 (.slice va vn vn) vn vs0) (hvn : vn ≤ 2097152) :
    Calls Try.prog 27 #[.pointer (some ⟨g, 0, none⟩), .slice va vn vn] w fun e w' => Bsd B base w g s e w' := by
  have harr := array_any g s w B hB h (by omega)
  have hn := Nat.le_trans (arrS_le s) hl0
  have hl : (arrS s).2.zs.length ≤ 2097152 := Nat.le_trans (arrS_shrinks s) hl0
  unfold Arrd at harr
  unfold Bsd
  obtain ⟨n, hne⟩ : ∃ n, n = (arrS s).1 := ⟨_, rfl⟩
  obtain ⟨s1, hse⟩ : ∃ s1, s1 = (arrS s).2 := ⟨_, rfl⟩
  rw [← hne, ← hse] at harr
  rw [← hne, ← hse]
  rw [← hne] at hn
  rw [← hse] at hl
  have hg : g < w.heap.size := by obtain ⟨_, _, _, hR, _⟩ := h.ex; exact hR.lt
  have hne0 : some g ≠ (Value.slice va vn vn).ownBlock := by obtain ⟨_, _, _, hR, _⟩ := h.ex; exact hR.other hown0
  clear hne hse h
  by_cases hmk : vn < n
  · have hmki : (vn : Int) < (n : Int) := by omega
    obtain ⟨i0, hi, hz0, hz1, hz2⟩ := info_parts Try.info22
    go_enter Try.func27, Try.ntmps27
    go_wp2_with (first | (go_at_call 30; refine harr.mono ?_; rintro e w1 ⟨rfl, hrd1, hO1⟩) | (at_make; refine wpList_make_full _ rfl _ _ 36 rfl base 22 i0 (.slice none 0 0) 1 Try.underlying36 hi hz0 hz1 _ _ _ _ n rfl rfl rfl rfl ?b2 ?b3 ?b4 ?_))
    case b2 => rw [hz2]; omega
    case b3 => unfold maxLen; omega
    case b4 => have := hO1.size; omega
    intro w2 hown2 hgrow2
    have hbl1 := hO1.below hB (Nat.le_of_lt hg)
    have hbl2 : Below B w w2 := hbl1.grown hgrow2 (by have := hO1.size; omega) (by simp)
    have hrel0 : Rel B base w g s1 (some ⟨w1.heap.size, 0, none⟩) n n 0 w2 := by
      obtain ⟨a1, m1, d1, hR1, hV1, hx1, hx2⟩ := hrd1.ex
      have hbw : Below B w1 w2 := (Below.refl B w1).grown hgrow2 (by have := hO1.size; omega) (by simp)
      exact ⟨_, hown2, Its.zero _ _ _ _, ⟨a1, m1, d1, (hgrow2.block g hR1.lt (by simp)).trans hR1, hV1.mono hbw, hx1, hx2⟩, hbl2⟩
    obtain ⟨ra, hra⟩ : ∃ ra : Option Addr, ra = some ⟨w1.heap.size, 0, none⟩ := ⟨_, rfl⟩
    clear hown2 hgrow2 hrd1 hO1 hbl1 hbl2 harr hi hz0 hz1 hz2 hown0 hne0
    go_wp2
    rw [← hra] at hrel0
    rw [← hra]
    have hrel1 := hrel0
    clear hrel0 hra
    go_loopw [21] (fun i wr => ∃ k : Nat, k ≤ n ∧ i = .int .i64 k ∧ Rel B base w g s1 ra n n k wr) (fun i _ => n - (intOf i).toNat)
    case atStart => exact ⟨0, Nat.zero_le _, rfl, hrel1⟩
    case round =>
      clear hrel1
      obtain ⟨k, hk, rfl, vs, hownk, hits, hrd, hbl⟩ := hrel
      by_cases hlt : k < n
      · obtain ⟨gr, u, hra, hgb, hcu, hfu⟩ := own_at hownk hlt
        subst hra
        obtain ⟨a', n', c', hR, hV, hnc, hc⟩ := hrd.ex
        have hll : (runS s1 k).2.zs.length ≤ 2097152 := Nat.le_trans (runS_shrinks s1 k) hl
        obtain ⟨q0, q1, q2⟩ := hR.cells
        have hgg : ¬ gr = g := fun e => hR.other hownk (by simp [Value.ownBlock, e])
        have hlti : (k : Int) < (n : Int) := by omega
        have hB2 : B ≤ gr := by omega
        obtain ⟨σ, hσ⟩ : ∃ σ, σ = (runS s1 k).2 := ⟨_, rfl⟩
        rw [← hσ] at q1 hV hR hll hrd
        obtain ⟨zs, fl⟩ := σ
        simp only at q1 hV hR hll
        have hlen := hV.len
        have hslow : ∀ q, Calls Try.prog 31 #[.pointer (some ⟨g, 0, none⟩)] (wr.drewN q) fun e w' => ∃ v, e = .returned v ∧ (∃ ai ni ci, v = .slice ai ni ci) ∧ (∃ u, w'.cell? ⟨gr, k, none⟩ = some u) ∧ w'.frozen? ⟨gr, k, none⟩ = false ∧
            Hid (Rel B base w g s1 (some ⟨gr, 0, none⟩) n n (k + 1) (w'.setCell ⟨gr, k, none⟩ v)) := by
          intro q
          refine (bytes_any g ⟨zs, fl⟩ (wr.drewN q) B hB (hrd.drewN q) (by show zs.length ≤ _; omega)).mono ?_
          rintro e w1 ⟨ai, ni, ci, rfl, hbi, hrd1, hO1⟩
          obtain ⟨a1, m1, d1, hR1, hV1, hnc1, hc1⟩ := hrd1.ex
          have hown1 : w1.ownsRow base 22 1 (.slice (some ⟨gr, 0, none⟩) n n) n vs := World.ownsRow.kept (w := wr.drewN q) hownk hO1 (.inr (fun e => hgg (by simp [Value.ownBlock] at e; exact e)))
          have hbO := hO1.below hB (Nat.le_of_lt hR.lt)
          obtain ⟨gr', u1, e1, _, hcu1, hfu1⟩ := own_at hown1 hlt
          simp only [Option.some.injEq, Addr.mk.injEq, and_true] at e1
          subst e1
          refine ⟨_, rfl, ⟨_, _, _, rfl⟩, ⟨u1, hcu1⟩, hfu1, ?_⟩
          rw [hσ] at hR1 hV1 hbi
          exact rel_step hB2 hown1 ((hits.drewN q).mono hbO) hR1 hV1 hnc1 hc1 ((below_drewN hbl q).trans hbO) hbi hlt
        cases fl with
        | true =>
          clear hits hrd hV hR hownk hσ
          go_wp2
          go_quiet (fail)
          go_wp2_with (go_at_call 31; refine (hslow _).mono ?_; rintro e w1 ⟨v, rfl, ⟨ai, ni, ci, rfl⟩, ⟨u1, hcu1⟩, hfu1, HR⟩)
          go_roundw
          case rel => exact ⟨k + 1, by omega, by go_num, HR.out⟩
          case measure => simp [intOf]; omega
        | false =>
          by_cases hn0 : n' = 0
          · subst hn0
            clear hits hrd hV hR hownk hσ
            go_wp2
            go_quiet (fail)
            go_wp2_with (go_at_call 31; refine (hslow _).mono ?_; rintro e w1 ⟨v, rfl, ⟨ai, ni, ci, rfl⟩, ⟨u1, hcu1⟩, hfu1, HR⟩)
            go_roundw
            case rel => exact ⟨k + 1, by omega, by go_num, HR.out⟩
            case measure => simp [intOf]; omega
          · obtain ⟨b, off, rfl, hb, hz, hz'⟩ := hV.first (by omega)
            obtain ⟨z, hzz⟩ : ∃ z, z = zs.getD 0 0 := ⟨_, rfl⟩
            rw [← hzz] at hz hz'
            have hnp : 0 < n' := by omega
            have hnpi : (0 : Int) < (n' : Int) := by omega
            by_cases hz24 : 64 ≤ z ∧ z < 88
            · obtain ⟨t, ht⟩ : ∃ t, z = 64 + t := ⟨z - 64, by omega⟩
              have hwz : IntKind.u8.wrap ((z : Int) - 64) = (t : Int) := by rw [IntKind.wrap_u8]; omega
              have ht24 : t < 24 := by omega
              have hti24 : (t : Int) < 24 := by omega
              by_cases htn : t < n'
              · have hti : (t : Int) < (n' : Int) := by omega
                have ht1 : (1 : Int) ≤ (t : Int) + 1 := by omega
                have htc : (t : Int) + 1 ≤ (c' : Int) := by omega
                have htn1 : (t : Int) + 1 ≤ (n' : Int) := by omega
                have htt : ((t : Int) + 1).toNat = t + 1 := by omega
                have hfs := oneS_fast (zs := zs) (by omega) (by omega) (by omega) (by omega)
                rw [← hzz, show z - 64 = t by omega] at hfs
                have hfast : ∀ (x y : Option Addr) (cx : Nat) (q : Nat), (¬ c' = 1 → x = some ⟨b, off + 1, none⟩) → (¬ c' = t + 1 → y = some ⟨b, off + (t + 1), none⟩) →
                    Rel B base w g s1 (some ⟨gr, 0, none⟩) n n (k + 1) (((wr.drewN q).setCell ⟨gr, k, none⟩ (.slice x t cx)).setCell ⟨g, 0, none⟩ (.slice y (n' - (t + 1)) (c' - (t + 1)))) := by
                  intro x y cx q hx hy
                  have v1 := (hV.dropIf (m := 1) (c := c') hnc (x := x) (fun h => by rw [hx h]; simp [Addr.add])).take (m := t) (by omega)
                  have v2 := hV.dropIf (m := t + 1) (c := c') hnc (x := y) (fun h => by rw [hy h]; simp [Addr.add])
                  refine rel_fast hB hB2 hownk hits hR (a' := y) (n' := n' - (t + 1)) (c' := c' - (t + 1)) ?_ ?_ (by omega) (by omega) hbl ?_ hlt q
                  · rw [← hσ, hfs]; exact v2
                  · rw [← hσ, hfs]
                  · rw [← hσ, hfs]; exact v1
                have HF := (show Hid _ from hfast)
                have HZ : Hid (z = 64 + t) := ht
                clear hits hrd hV hR hownk hσ hslow hfast hzz ht hz24 hfs hz' hn0 hll hlen
                by_cases hc1 : c' = 1
                · subst hc1
                  obtain rfl : t = 0 := by omega
                  obtain rfl : n' = 1 := by omega
                  go_wp2
                  go_quiet (fail)
                  go_wp2
                  go_region
                  all_goals go_wp2
                  all_goals
                    go_roundw
                    case rel => exact ⟨k + 1, by omega, by go_num, HF.out _ _ _ _ (fun h => by first | exact absurd rfl h | exact absurd trivial h) (fun h => by first | exact absurd rfl h | exact absurd trivial h)⟩
                    case measure => simp [intOf]; omega
                · by_cases hct : c' = t + 1
                  · subst hct
                    obtain rfl : n' = t + 1 := by omega
                    go_wp2
                    go_quiet (fail)
                    go_wp2
                    go_region
                    all_goals go_wp2
                    all_goals
                      go_roundw
                      case rel => exact ⟨k + 1, by omega, by go_num, by simpa using HF.out (some ⟨b, off + 1, none⟩) (some ⟨b, off, none⟩) t _ (fun _ => rfl) (fun h => by first | exact absurd rfl h | exact absurd trivial h)⟩
                      case measure => simp [intOf]; omega
                  · go_wp2
                    go_quiet (fail)
                    go_wp2
                    go_region
                    all_goals go_wp2
                    all_goals
                      go_roundw
                      case rel => exact ⟨k + 1, by omega, by go_num, HF.out _ _ _ _ (fun _ => rfl) (fun _ => rfl)⟩
                      case measure => simp [intOf]; omega
              · have hti : ¬ (t : Int) < (n' : Int) := by omega
                have htid : decide ((t : Int) < (n' : Int)) = false := decide_eq_false hti
                clear hits hrd hV hR hownk hσ hzz ht hz24 hz' hn0
                go_wp2
                go_quiet (fail)
                go_wp2_with (go_at_call 31; refine (hslow _).mono ?_; rintro e w1 ⟨v, rfl, ⟨ai, ni, ci, rfl⟩, ⟨u1, hcu1⟩, hfu1, HR⟩)
                go_roundw
                case rel => exact ⟨k + 1, by omega, by go_num, HR.out⟩
                case measure => simp [intOf]; omega
            · obtain ⟨y, hy⟩ : ∃ y : Nat, IntKind.u8.wrap ((z : Int) - 64) = (y : Int) := ⟨(IntKind.u8.wrap ((z : Int) - 64)).toNat, by rw [IntKind.wrap_u8]; omega⟩
              have hy24 : ¬ y < 24 := by rw [IntKind.wrap_u8] at hy; omega
              have hyi : ¬ (y : Int) < 24 := by omega
              have hyd : decide ((y : Int) < 24) = false := decide_eq_false hyi
              clear hits hrd hV hR hownk hσ hzz hz24 hz' hn0
              go_wp2
              go_quiet (fail)
              go_wp2_with (go_at_call 31; refine (hslow _).mono ?_; rintro e w1 ⟨v, rfl, ⟨ai, ni, ci, rfl⟩, ⟨u1, hcu1⟩, hfu1, HR⟩)
              go_roundw
              case rel => exact ⟨k + 1, by omega, by go_num, HR.out⟩
              case measure => simp [intOf]; omega
      · obtain rfl : k = n := by omega
        have R := And.intro hownk (And.intro hits (And.intro hrd hbl))
        have HR := (show Hid _ from R)
        clear R hownk hits hrd hbl
        go_wp2
        go_ret
        exact ⟨_, _, rfl, _, HR.out.1, HR.out.2.1, HR.out.2.2.1, HR.out.2.2.2⟩
  · have hmki : ¬ (vn : Int) < (n : Int) := by omega
    have hni : (n : Int) ≤ (vn : Int) := by omega
    go_enter Try.func27, Try.ntmps27
    go_wp2_with (go_at_call 30; refine harr.mono ?_; rintro e w1 ⟨rfl, hrd1, hO1⟩)
    have hbl1 := hO1.below hB (Nat.le_of_lt hg)
    obtain ⟨ys, hown1⟩ := own_cut (World.ownsRow.kept hown0 hO1 (.inr (fun e => hne0 e.symm))) (show n ≤ vn by omega)
    have hrel0 : Rel B base w g s1 va n vn 0 w1 := ⟨_, hown1, Its.zero _ _ _ _, hrd1, hbl1⟩
    obtain ⟨ra, hra⟩ : ∃ ra, ra = va := ⟨_, rfl⟩
    obtain ⟨rc, hrc⟩ : ∃ rc, rc = vn := ⟨_, rfl⟩
    rw [← hra, ← hrc] at hrel0
    clear hown1 hrd1 hO1 hbl1 harr hown0 hne0
    subst hra
    subst hrc
    go_loopw [21] (fun i wr => ∃ k : Nat, k ≤ n ∧ i = .int .i64 k ∧ Rel B base w g s1 ra n rc k wr) (fun i _ => n - (intOf i).toNat)
    case atStart => exact ⟨0, Nat.zero_le _, rfl, hrel0⟩
    case round =>
      clear hrel0
      obtain ⟨k, hk, rfl, vs, hownk, hits, hrd, hbl⟩ := hrel
      by_cases hlt : k < n
      · obtain ⟨gr, u, hra, hgb, hcu, hfu⟩ := own_at hownk hlt
        subst hra
        obtain ⟨a', n', c', hR, hV, hnc, hc⟩ := hrd.ex
        have hll : (runS s1 k).2.zs.length ≤ 2097152 := Nat.le_trans (runS_shrinks s1 k) hl
        obtain ⟨q0, q1, q2⟩ := hR.cells
        have hgg : ¬ gr = g := fun e => hR.other hownk (by simp [Value.ownBlock, e])
        have hlti : (k : Int) < (n : Int) := by omega
        have hB2 : B ≤ gr := by omega
        obtain ⟨σ, hσ⟩ : ∃ σ, σ = (runS s1 k).2 := ⟨_, rfl⟩
        rw [← hσ] at q1 hV hR hll hrd
        obtain ⟨zs, fl⟩ := σ
        simp only at q1 hV hR hll
        have hlen := hV.len
        have hslow : ∀ q, Calls Try.prog 31 #[.pointer (some ⟨g, 0, none⟩)] (wr.drewN q) fun e w' => ∃ v, e = .returned v ∧ (∃ ai ni ci, v = .slice ai ni ci) ∧ (∃ u, w'.cell? ⟨gr, k, none⟩ = some u) ∧ w'.frozen? ⟨gr, k, none⟩ = false ∧
            Hid (Rel B base w g s1 (some ⟨gr, 0, none⟩) n rc (k + 1) (w'.setCell ⟨gr, k, none⟩ v)) := by
          intro q
          refine (bytes_any g ⟨zs, fl⟩ (wr.drewN q) B hB (hrd.drewN q) (by show zs.length ≤ _; omega)).mono ?_
          rintro e w1 ⟨ai, ni, ci, rfl, hbi, hrd1, hO1⟩
          obtain ⟨a1, m1, d1, hR1, hV1, hnc1, hc1⟩ := hrd1.ex
          have hown1 : w1.ownsRow base 22 1 (.slice (some ⟨gr, 0, none⟩) n rc) n vs := World.ownsRow.kept (w := wr.drewN q) hownk hO1 (.inr (fun e => hgg (by simp [Value.ownBlock] at e; exact e)))
          have hbO := hO1.below hB (Nat.le_of_lt hR.lt)
          obtain ⟨gr', u1, e1, _, hcu1, hfu1⟩ := own_at hown1 hlt
          simp only [Option.some.injEq, Addr.mk.injEq, and_true] at e1
          subst e1
          refine ⟨_, rfl, ⟨_, _, _, rfl⟩, ⟨u1, hcu1⟩, hfu1, ?_⟩
          rw [hσ] at hR1 hV1 hbi
          exact rel_step hB2 hown1 ((hits.drewN q).mono hbO) hR1 hV1 hnc1 hc1 ((below_drewN hbl q).trans hbO) hbi hlt
        cases fl with
        | true =>
          clear hits hrd hV hR hownk hσ
          go_wp2
          go_quiet (fail)
          go_wp2_with (go_at_call 31; refine (hslow _).mono ?_; rintro e w1 ⟨v, rfl, ⟨ai, ni, ci, rfl⟩, ⟨u1, hcu1⟩, hfu1, HR⟩)
          go_roundw
          case rel => exact ⟨k + 1, by omega, by go_num, HR.out⟩
          case measure => simp [intOf]; omega
        | false =>
          by_cases hn0 : n' = 0
          · subst hn0
            clear hits hrd hV hR hownk hσ
            go_wp2
            go_quiet (fail)
            go_wp2_with (go_at_call 31; refine (hslow _).mono ?_; rintro e w1 ⟨v, rfl, ⟨ai, ni, ci, rfl⟩, ⟨u1, hcu1⟩, hfu1, HR⟩)
            go_roundw
            case rel => exact ⟨k + 1, by omega, by go_num, HR.out⟩
            case measure => simp [intOf]; omega
          · obtain ⟨b, off, rfl, hb, hz, hz'⟩ := hV.first (by omega)
            obtain ⟨z, hzz⟩ : ∃ z, z = zs.getD 0 0 := ⟨_, rfl⟩
            rw [← hzz] at hz hz'
            have hnp : 0 < n' := by omega
            have hnpi : (0 : Int) < (n' : Int) := by omega
            by_cases hz24 : 64 ≤ z ∧ z < 88
            · obtain ⟨t, ht⟩ : ∃ t, z = 64 + t := ⟨z - 64, by omega⟩
              have hwz : IntKind.u8.wrap ((z : Int) - 64) = (t : Int) := by rw [IntKind.wrap_u8]; omega
              have ht24 : t < 24 := by omega
              have hti24 : (t : Int) < 24 := by omega
              by_cases htn : t < n'
              · have hti : (t : Int) < (n' : Int) := by omega
                have ht1 : (1 : Int) ≤ (t : Int) + 1 := by omega
                have htc : (t : Int) + 1 ≤ (c' : Int) := by omega
                have htn1 : (t : Int) + 1 ≤ (n' : Int) := by omega
                have htt : ((t : Int) + 1).toNat = t + 1 := by omega
                have hfs := oneS_fast (zs := zs) (by omega) (by omega) (by omega) (by omega)
                rw [← hzz, show z - 64 = t by omega] at hfs
                have hfast : ∀ (x y : Option Addr) (cx : Nat) (q : Nat), (¬ c' = 1 → x = some ⟨b, off + 1, none⟩) → (¬ c' = t + 1 → y = some ⟨b, off + (t + 1), none⟩) →
                    Rel B base w g s1 (some ⟨gr, 0, none⟩) n rc (k + 1) (((wr.drewN q).setCell ⟨gr, k, none⟩ (.slice x t cx)).setCell ⟨g, 0, none⟩ (.slice y (n' - (t + 1)) (c' - (t + 1)))) := by
                  intro x y cx q hx hy
                  have v1 := (hV.dropIf (m := 1) (c := c') hnc (x := x) (fun h => by rw [hx h]; simp [Addr.add])).take (m := t) (by omega)
                  have v2 := hV.dropIf (m := t + 1) (c := c') hnc (x := y) (fun h => by rw [hy h]; simp [Addr.add])
                  refine rel_fast hB hB2 hownk hits hR (a' := y) (n' := n' - (t + 1)) (c' := c' - (t + 1)) ?_ ?_ (by omega) (by omega) hbl ?_ hlt q
                  · rw [← hσ, hfs]; exact v2
                  · rw [← hσ, hfs]
                  · rw [← hσ, hfs]; exact v1
                have HF := (show Hid _ from hfast)
                have HZ : Hid (z = 64 + t) := ht
                clear hits hrd hV hR hownk hσ hslow hfast hzz ht hz24 hfs hz' hn0 hll hlen
                by_cases hc1 : c' = 1
                · subst hc1
                  obtain rfl : t = 0 := by omega
                  obtain rfl : n' = 1 := by omega
                  go_wp2
                  go_quiet (fail)
                  go_wp2
                  go_region
                  all_goals go_wp2
                  all_goals
                    go_roundw
                    case rel => exact ⟨k + 1, by omega, by go_num, HF.out _ _ _ _ (fun h => by first | exact absurd rfl h | exact absurd trivial h) (fun h => by first | exact absurd rfl h | exact absurd trivial h)⟩
                    case measure => simp [intOf]; omega
                · by_cases hct : c' = t + 1
                  · subst hct
                    obtain rfl : n' = t + 1 := by omega
                    go_wp2
                    go_quiet (fail)
                    go_wp2
                    go_region
                    all_goals go_wp2
                    all_goals
                      go_roundw
                      case rel => exact ⟨k + 1, by omega, by go_num, by simpa using HF.out (some ⟨b, off + 1, none⟩) (some ⟨b, off, none⟩) t _ (fun _ => rfl) (fun h => by first | exact absurd rfl h | exact absurd trivial h)⟩
                      case measure => simp [intOf]; omega
                  · go_wp2
                    go_quiet (fail)
                    go_wp2
                    go_region
                    all_goals go_wp2
                    all_goals
                      go_roundw
                      case rel => exact ⟨k + 1, by omega, by go_num, HF.out _ _ _ _ (fun _ => rfl) (fun _ => rfl)⟩
                      case measure => simp [intOf]; omega
              · have hti : ¬ (t : Int) < (n' : Int) := by omega
                have htid : decide ((t : Int) < (n' : Int)) = false := decide_eq_false hti
                clear hits hrd hV hR hownk hσ hzz ht hz24 hz' hn0
                go_wp2
                go_quiet (fail)
                go_wp2_with (go_at_call 31; refine (hslow _).mono ?_; rintro e w1 ⟨v, rfl, ⟨ai, ni, ci, rfl⟩, ⟨u1, hcu1⟩, hfu1, HR⟩)
                go_roundw
                case rel => exact ⟨k + 1, by omega, by go_num, HR.out⟩
                case measure => simp [intOf]; omega
            · obtain ⟨y, hy⟩ : ∃ y : Nat, IntKind.u8.wrap ((z : Int) - 64) = (y : Int) := ⟨(IntKind.u8.wrap ((z : Int) - 64)).toNat, by rw [IntKind.wrap_u8]; omega⟩
              have hy24 : ¬ y < 24 := by rw [IntKind.wrap_u8] at hy; omega
              have hyi : ¬ (y : Int) < 24 := by omega
              have hyd : decide ((y : Int) < 24) = false := decide_eq_false hyi
              clear hits hrd hV hR hownk hσ hzz hz24 hz' hn0
              go_wp2
              go_quiet (fail)
              go_wp2_with (go_at_call 31; refine (hslow _).mono ?_; rintro e w1 ⟨v, rfl, ⟨ai, ni, ci, rfl⟩, ⟨u1, hcu1⟩, hfu1, HR⟩)
              go_roundw
              case rel => exact ⟨k + 1, by omega, by go_num, HR.out⟩
              case measure => simp [intOf]; omega
      · obtain rfl : k = n := by omega
        have R := And.intro hownk (And.intro hits (And.intro hrd hbl))
        have HR := (show Hid _ from R)
        clear R hownk hits hrd hbl
        go_wp2
        go_ret
        exact ⟨_, _, rfl, _, HR.out.1, HR.out.2.1, HR.out.2.2.1, HR.out.2.2.2⟩

end Go.Proofs.Qxb6600244a
