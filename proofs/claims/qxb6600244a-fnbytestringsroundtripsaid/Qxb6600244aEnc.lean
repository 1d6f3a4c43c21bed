import Derived.Test.Qxb6600244aBase
import Derived.Test.Qxb6600244aEncPlain
namespace Go.Proofs.Qxb6600244a
open Go.RowKit

/-- 'append(v, x...)', v the call's own, x a row of bytes whatever: nil, empty or not. -/
theorem wpList_append_bytes {w : World} {ops : Array Oper} {rest : List Oper} {o : Oper} {a : Act} {Q : Exit → Act → World → Prop} (hgd : o.guard = none) (s x : Operand)
    (ho : o.op = .call { callee := .builtin .append, args := #[s, x], argTypes := #[22, 22] })
    (base : Nat) (va : Option Addr) (n vc : Nat) (xs : List Nat) (hs : a.eval s = .slice va n vc) (hown : w.ownsRow base 5 1 (.slice va n vc) n (u8s xs))
    (B : Nat) (ao : Option Addr) (m c : Nat) (ys : List Nat) (hx : a.eval x = .slice ao m c) (hy : BV B w ao m ys) (hnone : ao = none → m = 0 ∧ c = 0) (hn : n ≤ 1099511627776) (hm : m ≤ 1099511627776) (hbase : base ≤ w.heap.size)
    (h : ∀ a' c' w', w'.ownsRow base 5 1 (.slice a' (n + m) c') (n + m) (u8s (xs ++ ys)) → w.grownBy w' (Value.slice va n vc).ownBlock → wpList Try.prog ops Q rest (a.put o.dst (.slice a' (n + m) c')) w') :
    wpList Try.prog ops Q (o :: rest) a w := by
  obtain ⟨i0, hi, hz0, hz1, hz2⟩ := info_parts Try.info5
  cases ao with
  | none =>
    obtain ⟨rfl, rfl⟩ := hnone rfl
    obtain rfl : ys = [] := List.eq_nil_of_length_eq_zero hy.len
    refine wpList_append_own_none hgd s x 22 ho base 5 i0 1 Try.underlying22 hi _ n _ hs hown hx ?_
    exact h va vc w (by simpa using hown) (World.grownBy.refl _ _)
  | some ad =>
    have hc : ∀ j u, (u8s ys)[j]? = some u → w.cell? (ad.add j) = some u := by
      intro j u hu
      have hj : j < ys.length := by have := (List.getElem?_eq_some_iff.1 hu).1; rwa [u8s_length] at this
      obtain ⟨b, off, e, _, hc⟩ := hy.cell j (by have := hy.len; omega)
      simp only [Option.some.injEq] at e
      subst e
      rw [u8s_get hj] at hu
      rw [Addr.add_lit, hc, ← hu]
    refine wpList_append_own w hgd s x 22 ho base 5 i0 (.int .u8 0) 1 1 Try.underlying22 hi hz0 hz1 hz2 rfl (by decide) _ n _ hs hown ad m c (u8s ys) hx (by rw [u8s_length, Nat.mul_one]; exact hy.len) hc (u8s_one ys) (by unfold maxLen; omega) (by omega) hbase ?_
    intro v' w' h1 h2 _
    obtain ⟨a', c', rfl⟩ := own_shape h1
    exact h a' c' w' (by rw [u8s_append]; exact h1) h2

theorem BV.one (w : World) (z : Nat) (hz : z < 256) : BV (w.heap.size + 1) (w.alloc (.cells #[.int .u8 (z : Int)] 5)) (some ⟨w.heap.size, 0, none⟩) 1 [z] := by
  refine ⟨rfl, by simpa using hz, fun i hi => ⟨w.heap.size, 0, rfl, by omega, ?_⟩⟩
  obtain rfl : i = 0 := by omega
  simp

theorem formSize_any (f : Nat) (hf : f ≤ 4) (w : World) : Calls Try.prog 25 #[.int .u8 (f : Int)] w fun e w' => e = .returned (.int .i64 ((formSz f : Nat) : Int)) ∧ w' = w := by
  rcases (show f = 0 ∨ f = 1 ∨ f = 2 ∨ f = 3 ∨ f = 4 by omega) with rfl | rfl | rfl | rfl | rfl
  all_goals
    go_enter Try.func25, Try.ntmps25
    go_wp2
    go_ret
    exact ⟨rfl, rfl⟩

/-- A number fits a form. -/
def fitsB (n f : Nat) : Bool := if f = 0 then decide (n < 24) else if f = 1 then decide (n < 256) else if f = 2 then decide (n < 65536) else if f = 3 then decide (n < 4294967296) else true

theorem ret_bool {a b : Bool} (h : a = b) : Ending.returned (.bool a) = .returned (.bool b) := by rw [h]

theorem fits_any (n f : Nat) (hf : f ≤ 4) (w : World) : Calls Try.prog 14 #[.int .u64 (n : Int), .int .u8 (f : Int)] w fun e w' => e = .returned (.bool (fitsB n f)) ∧ w' = w := by
  rcases (show f = 0 ∨ f = 1 ∨ f = 2 ∨ f = 3 ∨ f = 4 by omega) with rfl | rfl | rfl | rfl | rfl
  all_goals
    go_enter Try.func14, Try.ntmps14
    go_wp2
    go_ret
    refine ⟨ret_bool ?_, rfl⟩
    simp [fitsB]
  all_goals omega

/-- The row in the middle of the first loop. -/
theorem rep_snoc (ds : List Nat) (h k : Nat) : ds ++ h :: List.replicate k 0 ++ [0] = ds ++ h :: List.replicate (k + 1) 0 := by
  rw [List.append_assoc, List.cons_append, ← List.replicate_succ']

/-- The row in the middle of the second loop: j bytes are written, from the back. -/
def midR (ds : List Nat) (h S N j : Nat) : List Nat := ds ++ h :: (List.replicate (S - j) 0 ++ beB j N)

theorem midR_zero (ds : List Nat) (h S N : Nat) : midR ds h S N 0 = ds ++ h :: List.replicate S 0 := by simp [midR, beB]
theorem midR_full (ds : List Nat) (h S N : Nat) : midR ds h S N S = ds ++ h :: beB S N := by simp [midR]
theorem midR_length {ds : List Nat} {h S N j : Nat} (hj : j ≤ S) : (midR ds h S N j).length = ds.length + 1 + S := by simp [midR, beB_length]; omega
theorem midR_get {ds : List Nat} {h S N j : Nat} (hj : j < S) : (midR ds h S N j).getD (ds.length + 1 + (S - 1 - j)) 0 = 0 := by
  unfold midR
  rw [List.getD, List.getElem?_append_right (by omega), show ds.length + 1 + (S - 1 - j) - ds.length = (S - 1 - j) + 1 by omega, List.getElem?_cons_succ, List.getElem?_append_left (by simp; omega), List.getElem?_replicate]
  split <;> rfl
theorem midR_set {ds : List Nat} {h S N j : Nat} (hj : j < S) : (midR ds h S N j).set (ds.length + 1 + (S - 1 - j)) (N / 256 ^ j % 256) = midR ds h S N (j + 1) := by
  unfold midR
  rw [List.set_append_right _ _ (by omega), show ds.length + 1 + (S - 1 - j) - ds.length = (S - 1 - j) + 1 by omega, List.set_cons_succ]
  have e : List.replicate (S - j) 0 = List.replicate (S - 1 - j) 0 ++ [0] := by
    rw [show S - j = (S - 1 - j) + 1 by omega, List.replicate_succ']
  rw [e, List.append_assoc, List.set_append_right _ _ (by simp), beB_step N j, show S - (j + 1) = S - 1 - j by omega]
  simp

theorem u8s_set (l : List Nat) (i z : Nat) : (u8s l).set i (.int .u8 (z : Int)) = u8s (l.set i z) := by simp [u8s, u8, List.map_set]

set_option maxHeartbeats 2000000 in
theorem appendHead_any (a : Option Addr) (n c m N f : Nat) (ds : List Nat) (w : World) (base : Nat) (hbase : base ≤ w.heap.size) (hown : w.ownsRow base 5 1 (.slice a n c) n (u8s ds)) (hn : n ≤ 1073741824)
    (hm : m % 32 = 0) (hm' : m < 256) (hf : f ≤ 4) (hN : N < 18446744073709551616) (hfit : f = 0 → N < 24) :
    Calls Try.prog 15 #[.slice a n c, .int .u8 (m : Int), .int .u64 (N : Int), .int .u8 (f : Int)] w fun e w' => ∃ a' c', e = .returned (.slice a' (n + 1 + formSz f) c') ∧
      w'.ownsRow base 5 1 (.slice a' (n + 1 + formSz f) c') (n + 1 + formSz f) (u8s (ds ++ encH m N f)) ∧ Below base w w' := by
  obtain ⟨S, hS⟩ : ∃ S, S = formSz f := ⟨_, rfl⟩
  have hS8 : S ≤ 8 := by rw [hS]; exact formSz_le f
  obtain ⟨H, hH⟩ : ∃ H, H = m + infoOf N f := ⟨_, rfl⟩
  have hI32 : infoOf N f < 32 := by unfold infoOf; split <;> omega
  have hH256 : H < 256 := by omega
  have henc : encH m N f = H :: beB S N := by unfold encH; rw [hH, hS]
  have hor : bits BinOp.or IntKind.u8 (m : Int) ((infoOf N f : Nat) : Int) = (H : Int) := by rw [u8_or_nat _ _ hm' (by omega), nat_join 5 m _ hm (by omega), hH]
  have hcon := formSize_any f hf w
  rw [← hS] at hcon
  rw [henc, ← hS]
  have HDL : Hid (ds.length = n) := by have := hown.1; rw [u8s_length] at this; show ds.length = n; omega
  by_cases hf0 : f = 0
  · subst hf0
    have hor' : bits BinOp.or IntKind.u8 (m : Int) (N : Int) = (H : Int) := hor
    have hN24 : N < 24 := hfit rfl
    clear hS hH henc hor hI32 hfit
    go_enter Try.func15, Try.ntmps15
    go_wp2_with (first | (go_at_call 25; refine hcon.mono ?_; rintro e w' ⟨rfl, hw⟩; obtain rfl := hw.symm) | (at_builtin; refine wpList_append_bytes rfl (.tmp 23) (.tmp 27) rfl base a n c ds rfl (hown.alloc _) (w.heap.size + 1) _ 1 1 [H] rfl (BV.one w H hH256) (by simp) (by omega) (by omega) (by simp; omega) ?_))
    intro a1 c1 w1 hown1 hgrow1
    have hb1 : Below base w w1 := ((Below.refl base w).alloc hbase _).grown hgrow1 (by simp; omega) (fun k hk => (hown.lt k hk).1)
    have hz1 := hgrow1.size
    rw [show (w.alloc (Obj.cells #[Value.int IntKind.u8 (H : Int)] 5)).heap.size = w.heap.size + 1 by simp] at hz1
    clear hgrow1 hcon hown
    go_wp2
    go_loopw [0, 12] (fun v k wr => ∃ (j : Nat) (aj : Option Addr) (cj : Nat), j ≤ S ∧ k = .int .i64 j ∧ v = .slice aj (n + 1 + j) cj ∧ wr.ownsRow base 5 1 (.slice aj (n + 1 + j) cj) (n + 1 + j) (u8s (ds ++ H :: List.replicate j 0)) ∧ Below base w wr) (fun _ k _ => S - (intOf k).toNat)
    case atStart => exact ⟨0, a1, c1, Nat.zero_le _, rfl, rfl, hown1, hb1⟩
    case round =>
      clear hown1 hb1 hz1
      obtain ⟨j, aj, cj, hj, rfl, rfl, hownj, hbj⟩ := hrel
      have hzj := hbj.size
      by_cases hlt : j < S
      · have hlt' : (j : Int) < (S : Int) := by omega
        go_wp2_with (at_builtin; refine wpList_append_bytes rfl (.tmp 36) (.tmp 37) rfl base aj (n + 1 + j) cj (ds ++ H :: List.replicate j 0) rfl (hownj.alloc _) (wr.heap.size + 1) _ 1 1 [0] rfl (BV.one wr 0 (by omega)) (by simp) (by omega) (by omega) (by simp; omega) ?_)
        intro a2 c2 w2 hown2 hgrow2
        have hb2 : Below base w w2 := (hbj.alloc (by omega) _).grown hgrow2 (by simp; omega) (fun k hk => (hownj.lt k hk).1)
        have hown3 : w2.ownsRow base 5 1 (.slice a2 (n + 1 + (j + 1)) c2) (n + 1 + (j + 1)) (u8s (ds ++ H :: List.replicate (j + 1) 0)) := by
          rw [← List.replicate_succ'] at hown2
          exact hown2
        clear hown2 hgrow2 hownj hbj
        go_wp2
        go_roundw
        case rel => exact ⟨j + 1, a2, c2, by omega, by go_num, rfl, hown3, hb2⟩
        case measure => simp [intOf]; omega
      · obtain rfl : j = S := by omega
        clear hlt
        have hown2 : wr.ownsRow base 5 1 (.slice aj (n + 1 + j) cj) (n + 1 + j) (u8s (midR ds H j N 0)) := by rw [midR_zero]; exact hownj
        obtain ⟨g, hg⟩ : ∃ g, aj = some ⟨g, 0, none⟩ := by
          rcases hownj.2 with ⟨hv, _⟩ | ⟨g, cap, cur, hv, _⟩
          · simp at hv
          · simp at hv
            exact ⟨g, hv.1⟩
        subst hg
        have hbg : base ≤ g := (hownj.lt g rfl).1
        clear hownj
        obtain ⟨wo, rfl⟩ : ∃ wo : World, wo = wr := ⟨_, rfl⟩
        go_wp2
        go_loopw [13, 14] (fun v k wr => ∃ t : Nat, t ≤ j ∧ k = .int .i64 ((j : Int) - 1 - t) ∧ v = .int .u64 ((N / 256 ^ t : Nat) : Int) ∧ wr.ownsRow base 5 1 (.slice (some ⟨g, 0, none⟩) (n + 1 + j) cj) (n + 1 + j) (u8s (midR ds H j N t)) ∧ Below base w wr) (fun _ k _ => (intOf k + 1).toNat)
        case atStart => exact ⟨0, Nat.zero_le _, by go_num, by simp, hown2, hbj⟩
        case round =>
          clear hown2 hbj
          obtain ⟨t, ht, rfl, rfl, hownt, hbt⟩ := hrel
          obtain ⟨M, hM⟩ : ∃ M, M = N / 256 ^ t := ⟨_, rfl⟩
          have hM64 : M < 18446744073709551616 := by rw [hM]; exact Nat.lt_of_le_of_lt (Nat.div_le_self _ _) hN
          have hM' : M / 256 = N / 256 ^ (t + 1) := by rw [hM, Nat.div_div_eq_div_mul, Nat.pow_succ]
          have HM : Hid (M / 256 = N / 256 ^ (t + 1)) := hM'
          rw [← hM]
          by_cases hlt : t < j
          · obtain ⟨p, hp⟩ : ∃ p, p = j - 1 - t := ⟨_, rfl⟩
            have hpi : (j : Int) - 1 - t = (p : Int) := by omega
            have hdl : ds.length = n := HDL.out
            have hcell : wr.cell? ⟨g, n + 1 + p, none⟩ = some (.int .u8 0) := by
              have h1 := hownt.cellAt (n + 1 + p) (by omega)
              rw [u8s_get (by rw [midR_length ht, hdl]; omega), hp, ← hdl, midR_get hlt] at h1
              rw [hp, ← hdl]; exact h1
            have hfz : wr.frozen? ⟨g, n + 1 + p, none⟩ = false := hownt.frozenAt _
            have hst := (hownt.stored (n + 1 + p) (.int .u8 ((M % 256 : Nat) : Int))).1
            have hst' : (wr.setCell ⟨g, n + 1 + p, none⟩ (.int .u8 ((M % 256 : Nat) : Int))).ownsRow base 5 1 (.slice (some ⟨g, 0, none⟩) (n + 1 + j) cj) (n + 1 + j) (u8s (midR ds H j N (t + 1))) := by
              rw [u8s_set, hM, hp] at hst
              rw [hM, hp]
              have e := midR_set (ds := ds) (h := H) (N := N) hlt
              rw [hdl] at e
              rw [e] at hst
              exact hst
            have hbt' := hbt.setCell (p := ⟨g, n + 1 + p, none⟩) hbg (.int .u8 ((M % 256 : Nat) : Int))
            have eM : ((M % 256 : Nat) : Int) = (M : Int) % 256 := by omega
            have R := And.intro hst' hbt'
            rw [eM] at R
            have hp2 : (p : Int) - 1 = (j : Int) - 1 - ((t + 1 : Nat) : Int) := by omega
            have HP : Hid ((p : Int) - 1 = (j : Int) - 1 - ((t + 1 : Nat) : Int)) := hp2
            have hpj : p < j := by omega
            rw [hpi]
            clear hst hst' hbt' hownt hbt hM hp hp2 hpi hdl hM' eM
            go_wp2
            go_roundw
            case rel => exact ⟨t + 1, by omega, by rw [HP.out], by rw [← HM.out]; go_num, R.1, R.2⟩
            case measure => simp [intOf]
          · obtain rfl : t = j := by omega
            have e1 : (t : Int) - 1 - t = -1 := by omega
            rw [e1]
            rw [midR_full] at hownt
            clear hM hM' HM hlt e1
            go_wp2
            go_ret
            exact ⟨_, _, rfl, hownt, hbt⟩
  · have e2 : infoOf N f = 23 + f := by unfold infoOf; rw [if_neg hf0]
    have hor' : bits BinOp.or IntKind.u8 (m : Int) (23 + (f : Int)) = (H : Int) := by rw [e2] at hor; rw [← hor]; congr 1
    have hf0' : ¬ (f : Int) = 0 := by omega
    clear hS hH henc hor hI32 hfit e2
    go_enter Try.func15, Try.ntmps15
    go_wp2_with (first | (go_at_call 25; refine hcon.mono ?_; rintro e w' ⟨rfl, hw⟩; obtain rfl := hw.symm) | (at_builtin; refine wpList_append_bytes rfl (.tmp 23) (.tmp 27) rfl base a n c ds rfl (hown.alloc _) (w.heap.size + 1) _ 1 1 [H] rfl (BV.one w H hH256) (by simp) (by omega) (by omega) (by simp; omega) ?_))
    intro a1 c1 w1 hown1 hgrow1
    have hb1 : Below base w w1 := ((Below.refl base w).alloc hbase _).grown hgrow1 (by simp; omega) (fun k hk => (hown.lt k hk).1)
    have hz1 := hgrow1.size
    rw [show (w.alloc (Obj.cells #[Value.int IntKind.u8 (H : Int)] 5)).heap.size = w.heap.size + 1 by simp] at hz1
    clear hgrow1 hcon hown
    go_wp2
    go_loopw [0, 12] (fun v k wr => ∃ (j : Nat) (aj : Option Addr) (cj : Nat), j ≤ S ∧ k = .int .i64 j ∧ v = .slice aj (n + 1 + j) cj ∧ wr.ownsRow base 5 1 (.slice aj (n + 1 + j) cj) (n + 1 + j) (u8s (ds ++ H :: List.replicate j 0)) ∧ Below base w wr) (fun _ k _ => S - (intOf k).toNat)
    case atStart => exact ⟨0, a1, c1, Nat.zero_le _, rfl, rfl, hown1, hb1⟩
    case round =>
      clear hown1 hb1 hz1
      obtain ⟨j, aj, cj, hj, rfl, rfl, hownj, hbj⟩ := hrel
      have hzj := hbj.size
      by_cases hlt : j < S
      · have hlt' : (j : Int) < (S : Int) := by omega
        go_wp2_with (at_builtin; refine wpList_append_bytes rfl (.tmp 36) (.tmp 37) rfl base aj (n + 1 + j) cj (ds ++ H :: List.replicate j 0) rfl (hownj.alloc _) (wr.heap.size + 1) _ 1 1 [0] rfl (BV.one wr 0 (by omega)) (by simp) (by omega) (by omega) (by simp; omega) ?_)
        intro a2 c2 w2 hown2 hgrow2
        have hb2 : Below base w w2 := (hbj.alloc (by omega) _).grown hgrow2 (by simp; omega) (fun k hk => (hownj.lt k hk).1)
        have hown3 : w2.ownsRow base 5 1 (.slice a2 (n + 1 + (j + 1)) c2) (n + 1 + (j + 1)) (u8s (ds ++ H :: List.replicate (j + 1) 0)) := by
          rw [← List.replicate_succ'] at hown2
          exact hown2
        clear hown2 hgrow2 hownj hbj
        go_wp2
        go_roundw
        case rel => exact ⟨j + 1, a2, c2, by omega, by go_num, rfl, hown3, hb2⟩
        case measure => simp [intOf]; omega
      · obtain rfl : j = S := by omega
        clear hlt
        have hown2 : wr.ownsRow base 5 1 (.slice aj (n + 1 + j) cj) (n + 1 + j) (u8s (midR ds H j N 0)) := by rw [midR_zero]; exact hownj
        obtain ⟨g, hg⟩ : ∃ g, aj = some ⟨g, 0, none⟩ := by
          rcases hownj.2 with ⟨hv, _⟩ | ⟨g, cap, cur, hv, _⟩
          · simp at hv
          · simp at hv
            exact ⟨g, hv.1⟩
        subst hg
        have hbg : base ≤ g := (hownj.lt g rfl).1
        clear hownj
        obtain ⟨wo, rfl⟩ : ∃ wo : World, wo = wr := ⟨_, rfl⟩
        go_wp2
        go_loopw [13, 14] (fun v k wr => ∃ t : Nat, t ≤ j ∧ k = .int .i64 ((j : Int) - 1 - t) ∧ v = .int .u64 ((N / 256 ^ t : Nat) : Int) ∧ wr.ownsRow base 5 1 (.slice (some ⟨g, 0, none⟩) (n + 1 + j) cj) (n + 1 + j) (u8s (midR ds H j N t)) ∧ Below base w wr) (fun _ k _ => (intOf k + 1).toNat)
        case atStart => exact ⟨0, Nat.zero_le _, by go_num, by simp, hown2, hbj⟩
        case round =>
          clear hown2 hbj
          obtain ⟨t, ht, rfl, rfl, hownt, hbt⟩ := hrel
          obtain ⟨M, hM⟩ : ∃ M, M = N / 256 ^ t := ⟨_, rfl⟩
          have hM64 : M < 18446744073709551616 := by rw [hM]; exact Nat.lt_of_le_of_lt (Nat.div_le_self _ _) hN
          have hM' : M / 256 = N / 256 ^ (t + 1) := by rw [hM, Nat.div_div_eq_div_mul, Nat.pow_succ]
          have HM : Hid (M / 256 = N / 256 ^ (t + 1)) := hM'
          rw [← hM]
          by_cases hlt : t < j
          · obtain ⟨p, hp⟩ : ∃ p, p = j - 1 - t := ⟨_, rfl⟩
            have hpi : (j : Int) - 1 - t = (p : Int) := by omega
            have hdl : ds.length = n := HDL.out
            have hcell : wr.cell? ⟨g, n + 1 + p, none⟩ = some (.int .u8 0) := by
              have h1 := hownt.cellAt (n + 1 + p) (by omega)
              rw [u8s_get (by rw [midR_length ht, hdl]; omega), hp, ← hdl, midR_get hlt] at h1
              rw [hp, ← hdl]; exact h1
            have hfz : wr.frozen? ⟨g, n + 1 + p, none⟩ = false := hownt.frozenAt _
            have hst := (hownt.stored (n + 1 + p) (.int .u8 ((M % 256 : Nat) : Int))).1
            have hst' : (wr.setCell ⟨g, n + 1 + p, none⟩ (.int .u8 ((M % 256 : Nat) : Int))).ownsRow base 5 1 (.slice (some ⟨g, 0, none⟩) (n + 1 + j) cj) (n + 1 + j) (u8s (midR ds H j N (t + 1))) := by
              rw [u8s_set, hM, hp] at hst
              rw [hM, hp]
              have e := midR_set (ds := ds) (h := H) (N := N) hlt
              rw [hdl] at e
              rw [e] at hst
              exact hst
            have hbt' := hbt.setCell (p := ⟨g, n + 1 + p, none⟩) hbg (.int .u8 ((M % 256 : Nat) : Int))
            have eM : ((M % 256 : Nat) : Int) = (M : Int) % 256 := by omega
            have R := And.intro hst' hbt'
            rw [eM] at R
            have hp2 : (p : Int) - 1 = (j : Int) - 1 - ((t + 1 : Nat) : Int) := by omega
            have HP : Hid ((p : Int) - 1 = (j : Int) - 1 - ((t + 1 : Nat) : Int)) := hp2
            have hpj : p < j := by omega
            rw [hpi]
            clear hst hst' hbt' hownt hbt hM hp hp2 hpi hdl hM' eM
            go_wp2
            go_roundw
            case rel => exact ⟨t + 1, by omega, by rw [HP.out], by rw [← HM.out]; go_num, R.1, R.2⟩
            case measure => simp [intOf]
          · obtain rfl : t = j := by omega
            have e1 : (t : Int) - 1 - t = -1 := by omega
            rw [e1]
            rw [midR_full] at hownt
            clear hM hM' HM hlt e1
            go_wp2
            go_ret
            exact ⟨_, _, rfl, hownt, hbt⟩

end Go.Proofs.Qxb6600244a
