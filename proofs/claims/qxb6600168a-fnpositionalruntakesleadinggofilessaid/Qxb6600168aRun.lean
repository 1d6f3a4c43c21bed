import Derived.Test.Qxb6600168aPos
import Derived.Test.Qxb6600168aSuffix
import Derived.Deep.RegionLaw
namespace Go.Proofs.Qxb6600168a
open Go.RowKit

theorem SV.take {B : Nat} {w : World} {a : Option Addr} {n : Nat} {ss : List ByteArray} (h : SV B w a n ss) {m : Nat} (hm : m ≤ n) : SV B w a m (ss.take m) := by
  refine ⟨by simp [h.1]; omega, fun i hi => ?_⟩
  obtain ⟨b, off, e, hb, hc⟩ := h.2 i (by omega)
  refine ⟨b, off, e, hb, ?_⟩
  rw [hc]
  simp [List.getD, hi]

/-- The append of strings as one step of a region that draws. -/
theorem step_append_strs {w : World} {ops : Array Oper} {o : Oper} {a : Act} {K : Act → World → Prop} {Q : Exit → Act → World → Prop} {E : Prop} (hgd : o.guard = none) (s x : Operand)
    (ho : o.op = .call { callee := .builtin .append, args := #[s, x], argTypes := #[28, 28] })
    (base : Nat) (va : Option Addr) (n vc : Nat) (xs : List ByteArray) (hs : a.eval s = .slice va n vc) (hown : w.ownsRow base 9 1 (.slice va n vc) n (xs.map Value.string))
    (B : Nat) (ao : Option Addr) (m c : Nat) (ys : List ByteArray) (hx : a.eval x = .slice ao m c) (hy : SV B w ao m ys) (hnone : ao = none → m = 0 ∧ c = 0) (hn : n ≤ 1048576) (hm : m ≤ 1048576) (hbase : base ≤ w.heap.size)
    (h : ∀ a' c' w', w'.ownsRow base 9 1 (.slice a' (n + m) c') (n + m) (xs.map Value.string ++ ys.map Value.string) → w.grownBy w' (Value.slice va n vc).ownBlock → K (a.put o.dst (.slice a' (n + m) c')) w') :
    if Region.wanted o (yielded ops a.tmps) = true then Oper.wp Try.prog o a w K Q else E := by
  have hw : Region.wanted o (yielded ops a.tmps) = true := by simp [Region.wanted, hgd]
  rw [if_pos hw]
  obtain ⟨i0, hi, hz0, hz1, hz2⟩ := info_parts Try.info9
  cases ao with
  | none =>
    obtain ⟨rfl, rfl⟩ := hnone rfl
    obtain rfl : ys = [] := List.eq_nil_of_length_eq_zero hy.1
    have hrun := run_append_owned_none (P := Try.prog) (w := w) base 28 o.type 9 i0 1 Try.underlying28 hi _ n _ hown
    unfold Oper.wp
    simp [execOp, ho, resolve, invoke, builtin, hs, hx, hrun, Result.andThen]
    exact h va vc w (by simpa using hown) (World.grownBy.refl _ _)
  | some ad =>
    have hc : ∀ j u, (ys.map Value.string)[j]? = some u → w.cell? (ad.add j) = some u := by
      intro j u hu
      have hj : j < m := by
        have := (List.getElem?_eq_some_iff.1 hu).1
        have := hy.1
        simp at *
        omega
      obtain ⟨b, off, e, _, hc⟩ := hy.2 j hj
      simp only [Option.some.injEq] at e
      subst e
      rw [Addr.add_lit, hc]
      rw [List.getElem?_map, List.getElem?_eq_getElem (show j < ys.length by have := hy.1; omega)] at hu
      simp [List.getD, List.getElem?_eq_getElem (show j < ys.length by have := hy.1; omega)]
      simpa using hu
    refine wp_append_own w s x 28 ho base 9 i0 (.string ByteArray.empty) 1 16 Try.underlying28 hi hz0 hz1 hz2 rfl (by decide) _ n _ hs hown ad m c (ys.map Value.string) hx (by simpa using hy.1) hc ?_ (by unfold maxLen; omega) (by omega) hbase ?_
    · intro u hu
      obtain ⟨_, _, rfl⟩ := List.mem_map.1 hu
      rfl
    · intro v' w' h1 h2 _
      obtain ⟨a', c', rfl⟩ := own_shape h1
      exact h a' c' w' h1 h2

theorem runN_one {rs : List ByteArray} (h : lead rs = 0) (hp : 0 < rs.length) : runN rs = 1 := by
  unfold runN
  rw [h]
  have : rs ≠ [] := List.length_pos_iff.1 hp
  simp [this]
theorem runN_more {rs : List ByteArray} {k : Nat} (h : lead rs = k) (hk : ¬ k = 0) : runN rs = k := by
  unfold runN
  rw [h, if_neg hk]
theorem runN_zero {rs : List ByteArray} (h : rs.length = 0) : runN rs = 0 := by
  obtain rfl : rs = [] := List.eq_nil_of_length_eq_zero h
  rfl

set_option maxHeartbeats 2000000 in
theorem positional_run (vb : ByteArray) (g : Nat) (pa aa ar : Option Addr) (pn pc an ac nr cr : Nat) (ps ys rs : List ByteArray) (w : World) (B bA : Nat)
    (h1 : (vb.toList == [116, 101, 115, 116]) = false) (h2 : (vb.toList == [114, 117, 110]) = true) (hI : Inv w g vb (.slice pa pn pc) (.slice aa an ac)) (hB : B ≤ g) (hBA : B ≤ bA) (hbA : bA ≤ w.heap.size)
    (hP : w.ownsRow B 9 1 (.slice pa pn pc) pn (ps.map Value.string)) (hA : w.ownsRow bA 9 1 (.slice aa an ac) an (ys.map Value.string)) (hPA : ∀ k, (Value.slice pa pn pc).ownBlock = some k → k < bA)
    (hR : SV B w ar nr rs) (hnil : ar = none → nr = 0 ∧ cr = 0) (han : an ≤ 1048576) (hnr : nr ≤ 1048576) (hpn : pn ≤ 1048576) (hcr : nr ≤ cr) (hst : ∀ s ∈ rs, s.size ≤ maxLen) :
    Calls Try.prog 33 #[.pointer (some ⟨g, 0, none⟩), .slice ar nr cr, .bool false] w fun e w' => e = .returned (.tuple #[]) ∧ Posd B w w' g (pn + runN rs) (ps ++ rs.take (runN rs)) (an + nr) (ys ++ rs) := by
  obtain ⟨c0, c1, c8, cf⟩ := hI.cells
  have hg := lt_of_block hI
  go_enter Try.func33, Try.ntmps33
  go_wp2_with (at_builtin; refine wpList_append_strs rfl _ _ rfl bA aa an ac ys rfl hA B _ _ _ rs rfl hR hnil han hnr hbA ?_)
  intro a' c' w1 hown hgrow
  have hz := hgrow.size
  obtain ⟨d0, d1, d8, df⟩ := (hI.grown hgrow (hI.other hA)).cells
  obtain ⟨r1, r2, r3, r4, r5⟩ := step1 hI hB hBA hP hA hPA hR hown hgrow
  clear hown hgrow hI hP hA hR
  go_wp2
  go_loop [6] (fun i => ∃ k : Nat, k ≤ nr ∧ i = .int .i64 k ∧ ∀ j, j < k → goS (rs.getD j ByteArray.empty) = true) (fun i => nr - (intOf i).toNat)
  case atStart => exact ⟨0, Nat.zero_le _, rfl, fun j hj => by omega⟩
  case round =>
    obtain ⟨k, hk, rfl, hgo⟩ := hrel
    by_cases hlt : k < nr
    · obtain ⟨b, off, e, hbB, hc⟩ := r4.2 k hlt
      subst e
      obtain ⟨s, hs⟩ : ∃ s, s = rs.getD k ByteArray.empty := ⟨_, rfl⟩
      rw [← hs] at hc
      have hsz : s.size ≤ maxLen := by
        rw [hs, List.getD, List.getElem?_eq_getElem (show k < rs.length by have := r4.1; omega)]
        exact hst _ (List.getElem_mem _)
      by_cases hgs : goS s = true
      · have HG : Hid (∀ j, j < k + 1 → goS (rs.getD j ByteArray.empty) = true) := by
          intro j hj
          by_cases e : j = k
          · rw [e, ← hs]; exact hgs
          · exact hgo j (by omega)
        clear hgo hs
        go_wp2_with (go_at_call 38; refine (hasSuffix_any _ _ hsz).mono ?_; rintro e w' ⟨rfl, rfl⟩)
        go_round
        case rel => exact ⟨k + 1, by omega, by go_num, HG.out⟩
        case measure => simp [intOf]; omega
      · have hgs' : goS s = false := by simpa using hgs
        have HL : Hid (lead rs = k) := lead_eq rs k (by have := r4.1; omega) hgo (fun _ => by rw [← hs]; exact hgs')
        clear hgo hs hgs
        by_cases hk0 : k = 0
        · subst hk0
          rw [Nat.add_zero] at hc
          have HR : Hid (runN rs = 1) := runN_one HL.out (by have := r4.1; omega)
          have HN : (some (⟨b, off, none⟩ : Addr)) = none → 1 = 0 ∧ cr = 0 := by simp
          have r6 := r4.take (m := 1) (by omega)
          obtain ⟨ts, hts⟩ : ∃ ts, ts = rs.take 1 := ⟨_, rfl⟩
          rw [← hts] at r6
          have HT : Hid (ts = rs.take 1) := hts
          have hmc : (1 : Int) ≤ (cr : Int) := by omega
          clear hts r4 hst
          go_wp2_with (go_at_call 38; refine (hasSuffix_any _ _ hsz).mono ?_; rintro e w' ⟨rfl, rfl⟩)
          have r2d := r2.drew
          go_region_law (refine step_append_strs rfl (.tmp 60) (.tmp 63) rfl B pa pn pc ps (by simp [Act.eval]) r2.drew B _ _ _ ts (by simp [Act.eval]) r6 HN hpn (by omega) (by simp; omega) ?_; intro a2 c2 w3 hown3 hgrow3; obtain ⟨e0, e1, e8, ef⟩ := (r1.grown (w := (w1.setCell ⟨g, 8, none⟩ (.slice a' (an + nr) c')).drew) hgrow3 (r1.other r2)).cells)
          all_goals go_wp2
          all_goals go_end0
          all_goals refine ⟨rfl, ?_⟩
          all_goals rw [HR.out, ← HT.out]
          all_goals exact fin2 (w2 := (w1.setCell ⟨g, 8, none⟩ (.slice a' (an + nr) c')).drew) r1 hB r2 r3 hPA r5.drew (by assumption) (by assumption)
        · have hk1 : ¬ (k : Int) = 0 := by omega
          have HR : Hid (runN rs = k) := runN_more HL.out hk0
          have HN : (some (⟨b, off, none⟩ : Addr)) = none → k = 0 ∧ cr = 0 := by simp
          have r6 := r4.take (m := k) (by omega)
          obtain ⟨ts, hts⟩ : ∃ ts, ts = rs.take k := ⟨_, rfl⟩
          rw [← hts] at r6
          have HT : Hid (ts = rs.take k) := hts
          have hmc : (k : Int) ≤ (cr : Int) := by omega
          clear hts r4 hst
          go_wp2_with (go_at_call 38; refine (hasSuffix_any _ _ hsz).mono ?_; rintro e w' ⟨rfl, rfl⟩)
          have r2d := r2.drew
          go_region_law (refine step_append_strs rfl (.tmp 60) (.tmp 63) rfl B pa pn pc ps (by simp [Act.eval]) r2.drew B _ _ _ ts (by simp [Act.eval]) r6 HN hpn (by omega) (by simp; omega) ?_; intro a2 c2 w3 hown3 hgrow3; obtain ⟨e0, e1, e8, ef⟩ := (r1.grown (w := (w1.setCell ⟨g, 8, none⟩ (.slice a' (an + nr) c')).drew) hgrow3 (r1.other r2)).cells)
          all_goals go_wp2
          all_goals go_end0
          all_goals refine ⟨rfl, ?_⟩
          all_goals rw [HR.out, ← HT.out]
          all_goals exact fin2 (w2 := (w1.setCell ⟨g, 8, none⟩ (.slice a' (an + nr) c')).drew) r1 hB r2 r3 hPA r5.drew (by assumption) (by assumption)
    · have HL : Hid (lead rs = k) := lead_eq rs k (by have := r4.1; omega) hgo (fun h => by have := r4.1; omega)
      clear hgo
      by_cases hk0 : k = 0
      · subst hk0
        have HZ : Hid (nr = 0) := by show nr = 0; omega
        have HR : Hid (runN rs = 0) := runN_zero (r4.1.trans HZ.out)
        have r6 := r4.take (m := 0) (by omega)
        obtain ⟨ts, hts⟩ : ∃ ts, ts = rs.take 0 := ⟨_, rfl⟩
        rw [← hts] at r6
        have HT : Hid (ts = rs.take 0) := hts
        have hmc : (0 : Int) ≤ (cr : Int) := by omega
        clear hts r4 hst
        go_wp2
        have r2d := r2.drew
        go_region_law (refine step_append_strs rfl (.tmp 60) (.tmp 63) rfl B pa pn pc ps (by simp [Act.eval]) r2.drew B ar 0 cr ts (by simp [Act.eval]) r6 (fun h => ⟨rfl, (hnil h).2⟩) hpn (by omega) (by simp; omega) ?_; intro a2 c2 w3 hown3 hgrow3; obtain ⟨e0, e1, e8, ef⟩ := (r1.grown (w := (w1.setCell ⟨g, 8, none⟩ (.slice a' (an + nr) c')).drew) hgrow3 (r1.other r2)).cells)
        all_goals go_wp2
        all_goals go_end0
        all_goals refine ⟨rfl, ?_⟩
        all_goals rw [HR.out, ← HT.out]
        all_goals exact fin2 (w2 := (w1.setCell ⟨g, 8, none⟩ (.slice a' (an + nr) c')).drew) r1 hB r2 r3 hPA r5.drew (by assumption) (by assumption)
      · have hk1 : ¬ (k : Int) = 0 := by omega
        have HR : Hid (runN rs = k) := runN_more HL.out hk0
        have HN : ar = none → k = 0 ∧ cr = 0 := fun h => ⟨by have := hnil h; omega, (hnil h).2⟩
        have r6 := r4.take (m := k) (by omega)
        obtain ⟨ts, hts⟩ : ∃ ts, ts = rs.take k := ⟨_, rfl⟩
        rw [← hts] at r6
        have HT : Hid (ts = rs.take k) := hts
        have hmc : (k : Int) ≤ (cr : Int) := by omega
        clear hts r4 hst
        go_wp2
        have r2d := r2.drew
        go_region_law (refine step_append_strs rfl (.tmp 60) (.tmp 63) rfl B pa pn pc ps (by simp [Act.eval]) r2.drew B _ _ _ ts (by simp [Act.eval]) r6 HN hpn (by omega) (by simp; omega) ?_; intro a2 c2 w3 hown3 hgrow3; obtain ⟨e0, e1, e8, ef⟩ := (r1.grown (w := (w1.setCell ⟨g, 8, none⟩ (.slice a' (an + nr) c')).drew) hgrow3 (r1.other r2)).cells)
        all_goals go_wp2
        all_goals go_end0
        all_goals refine ⟨rfl, ?_⟩
        all_goals rw [HR.out, ← HT.out]
        all_goals exact fin2 (w2 := (w1.setCell ⟨g, 8, none⟩ (.slice a' (an + nr) c')).drew) r1 hB r2 r3 hPA r5.drew (by assumption) (by assumption)

end Go.Proofs.Qxb6600168a
