import Derived.Test.Qxb6600263aRest
namespace Go.Proofs.Qxb6600263a
open Go.RowKit

/-- A row's first k numbers, zero behind them. -/
def pre (fs : List Nat) (k : Nat) : Nat → Nat := fun i => if i < k then fs.getD i 0 else 0
theorem pre_zero (fs : List Nat) : pre fs 0 = fun _ => 0 := by funext i; simp [pre]
theorem pre_succ (fs : List Nat) (k : Nat) : upd (pre fs k) k (fs.getD k 0) = pre fs (k + 1) := by
  funext i
  unfold upd pre
  by_cases h : i = k
  · subst h; simp
  · rw [if_neg h]
    by_cases h2 : i < k
    · rw [if_pos h2, if_pos (by omega)]
    · rw [if_neg h2, if_neg (by omega)]

/-- The Nodes have just been made. -/
def Made (w' : World) (g n : Nat) : Prop := w'.ownsRow 0 47 40 (.slice (some ⟨g, 0, none⟩) n n) n (madeCells zl.toArray (n * 40)).toList
theorem make47 (w : World) {ops : Array Oper} {rest : List Oper} {o : Oper} {a : Act} {Q : Exit → Act → World → Prop} (hg : o.guard = none) (l c : Operand) (hop : o.op = Op.makeSlice 37 l c)
    (kl kc : IntKind) (L C : Int) (n : Nat) (hl : a.eval l = .int kl L) (hc : a.eval c = .int kc C) (hL : L = (n : Int)) (hC : C = (n : Int)) (hn : n ≤ 1048576)
    (hK : ∀ w', Made w' w.heap.size n → w.grownBy w' none → wpList Try.prog ops Q rest (a.put o.dst (.slice (some ⟨w.heap.size, 0, none⟩) n n)) w') : wpList Try.prog ops Q (o :: rest) a w := by
  obtain ⟨i0, z, hi, hz0, hz1, hz2, hz3⟩ := info47
  refine wpList_make_full w hg l c 37 hop 0 47 i0 z 40 Try.underlying37 hi hz0 hz2 kl kc L C n hl hc hL hC (Nat.le_trans (Nat.mul_le_mul hz3 hn) (by decide)) (by unfold maxLen; omega) (Nat.zero_le _) ?_
  rw [hz1]
  exact hK

theorem made_cell {w : World} {g n : Nat} (h : Made w g n) (k : Nat) (hk : k < n * 40) : w.cell? ⟨g, k, none⟩ = some (CN (fun _ => 0) (fun _ => 0) (fun _ => 0) (fun _ => 0) k) := by
  rw [World.ownsRow.cellAt h k hk, CN_zero]
  have : k % 40 < 40 := Nat.mod_lt _ (by omega)
  rw [Array.getElem?_toList]
  unfold madeCells
  have hs : zl.toArray.size = 40 := rfl
  rw [hs]
  simp only [Array.getElem?_map, Array.getElem?_range, if_pos hk, Option.map_some]
  have hl : zl.length = 40 := rfl
  simp [List.getD, List.getElem?_eq_getElem (show k % 40 < zl.length by omega)]

theorem St.drew {w : World} {t g n : Nat} {C : Nat → Value} {p : Value} (h : St w t g n C p) : St w.drew t g n C p := ⟨h.cell, h.fz, h.hp, h.hs, h.fzt, h.tg, h.gw⟩

set_option maxRecDepth 100000 in
set_option maxHeartbeats 2000000 in
theorem build_any (a0 a1 a2 : Option Addr) (n0 n1 n2 c0 c1 c2 n : Nat) (fs hs ws : List Nat) (w : World) (h0 : IV .u32 w.heap.size w a0 n0 fs) (h1 : IV .u8 w.heap.size w a1 n1 hs) (h2 : IV .u8 w.heap.size w a2 n2 ws)
    (hn0 : n ≤ n0) (hn1 : n ≤ n1) (hn2 : n ≤ n2) (hn : n ≤ 1048576) :
    Calls Try.prog 11 #[.slice a0 n0 c0, .slice a1 n1 c1, .slice a2 n2 c2, .int .i64 (n : Int)] w fun e w' => e = .returned (.pointer (some ⟨w.heap.size, 0, none⟩)) ∧
      St w' w.heap.size (w.heap.size + 1) n (CN (pre fs n) (pre hs n) (pre ws n) (fun _ => 0)) (.pointer none) ∧ Below w.heap.size w w' := by
  go_enter Try.func11, Try.ntmps11
  go_wp2_with (at_make; refine make47 _ rfl _ _ rfl _ _ _ _ n rfl rfl rfl rfl hn ?_)
  intro w1 hown hgrow
  obtain ⟨t, ht⟩ : ∃ t, t = w.heap.size := ⟨_, rfl⟩
  rw [← ht] at hown
  have hblk : w1.heap[t]? = some (.cells #[.int .u16 0, .int .u8 0, .int .u8 0, .int .i64 0, .int .u32 0, .bool false, .bool false, .bool false, .pointer none, .slice none 0 0] 39) := by
    rw [hgrow.block t (by simp [ht]) (by simp), ht]
    exact heap_alloc_new _ _
  have hsz : t + 1 < w1.heap.size := by
    rcases hown.2 with ⟨h', _⟩ | ⟨g', cap', cur, h', _, hg, _⟩
    · simp at h'
    · simp only [Value.slice.injEq, Option.some.injEq, Addr.mk.injEq, and_true, true_and] at h'
      obtain ⟨rfl, _⟩ := h'
      exact lt_of_block hg
  have hb1 : Below t w w1 := by
    refine (Below.alloc (Below.refl _ _) ?_ _).grown hgrow ?_ (by simp)
    · omega
    · simp [ht]
  have c8 : w1.cell? ⟨t, 8, none⟩ = some (.pointer none) := by simp [World.cell?, hblk]
  have c9 : w1.cell? ⟨t, 9, none⟩ = some (.slice none 0 0) := by simp [World.cell?, hblk]
  have cf : ∀ k, w1.frozen? ⟨t, k, none⟩ = false := by intro k; simp [World.frozen?, hblk]
  have st : St (w1.setCell ⟨t, 9, none⟩ (.slice (some ⟨t + 1, 0, none⟩) n n)) t (t + 1) n (CN (pre fs 0) (pre hs 0) (pre ws 0) (fun _ => 0)) (.pointer none) := by
    rw [pre_zero, pre_zero, pre_zero]
    refine ⟨fun k hk => ?_, fun k => ?_, ?_, ?_, fun k => ?_, by omega, by simpa [World.setCell] using hsz⟩
    · rw [World.cell?_setCell_other _ _ _ _ (by intro e'; simp only [Addr.mk.injEq] at e'; omega)]
      exact made_cell hown k hk
    · rw [World.frozen?_setCell]; exact World.ownsRow.frozenAt hown k
    · rw [World.cell?_setCell_other _ _ _ _ (by intro e'; simp only [Addr.mk.injEq] at e'; omega)]; exact c8
    · exact World.cell?_setCell_same _ _ _ c9
    · rw [World.frozen?_setCell]; exact cf k
  have cf9 := cf 9
  have hb2 : Below t w (w1.setCell ⟨t, 9, none⟩ (.slice (some ⟨t + 1, 0, none⟩) n n)) := hb1.setCell (p := ⟨t, 9, none⟩) (Nat.le_refl _) _
  have R := And.intro st hb2
  clear hown hgrow hblk hsz hb1 cf c8 st hb2
  subst ht
  go_wp2
  go_loopw [10] (fun i wr => ∃ k : Nat, k ≤ n ∧ i = .int .i64 k ∧ St wr w.heap.size (w.heap.size + 1) n (CN (pre fs k) (pre hs k) (pre ws k) (fun _ => 0)) (.pointer none) ∧ Below w.heap.size w wr) (fun i _ => n - (intOf i).toNat)
  case atStart => exact ⟨0, Nat.zero_le _, rfl, R.1, R.2⟩
  case round =>
    clear R c9 cf9
    obtain ⟨k, hk, rfl, st, hb⟩ := hrel
    by_cases hlt : k < n
    · obtain ⟨b0, o0, e0, hb0, hc0⟩ := h0.cell k (by omega)
      obtain ⟨b1, o1, e1, hb1, hc1⟩ := h1.cell k (by omega)
      obtain ⟨b2, o2, e2, hb2, hc2⟩ := h2.cell k (by omega)
      subst e0 e1 e2
      obtain ⟨f, hf⟩ : ∃ f, f = fs.getD k 0 := ⟨_, rfl⟩
      obtain ⟨h, hh⟩ : ∃ f, f = hs.getD k 0 := ⟨_, rfl⟩
      obtain ⟨wd, hwd⟩ : ∃ f, f = ws.getD k 0 := ⟨_, rfl⟩
      rw [← hf] at hc0
      rw [← hh] at hc1
      rw [← hwd] at hc2
      have r0 : wr.cell? ⟨b0, o0 + k, none⟩ = some (.int .u32 (f : Int)) := (hb.cell (p := ⟨b0, o0 + k, none⟩) hb0).trans hc0
      have d0 : wr.cell? ⟨w.heap.size + 1, k * 40, none⟩ = some (.int .u32 0) := by
        rw [st.cell (k * 40) (by omega)]
        show some (CN _ _ _ _ (k * 40 + 0)) = _
        rw [CN_at _ _ _ _ _ _ (by omega)]
        simp [nodeC, pre]
      have z0 := st.fz (k * 40)
      have s9 := st.hs
      have H0 := hid h0
      have H1 := hid h1
      have H2 := hid h2
      have HST := hid st
      have HB := hid hb
      have hkn0 : k < n0 := by omega
      have hkn1 : k < n1 := by omega
      have hkn2 : k < n2 := by omega
      have HC1 := hid hc1
      have HC2 := hid hc2
      have HF := hid hf
      have HH := hid hh
      have HW := hid hwd
      clear h0 h1 h2 st hb hf hh hwd hc0 hc1 hc2
      go_wp2
      go_region
      generalize hX : World.drew _ = X
      have hb := hX ▸ (HB.out.setCell (p := ⟨w.heap.size + 1, k * 40, none⟩) (Nat.le_succ _) (.int .u32 (f : Int))).drew
      have st := hX ▸ (HST.out.setNode (j := k * 40) (v := .int .u32 (f : Int)) (by omega) (CN_F _ _ _ _ k f)).drew
      clear hX HST HB d0 z0 r0 s9
      have r0 : X.cell? ⟨b1, o1 + k, none⟩ = some (.int .u8 (h : Int)) := (hb.cell (p := ⟨b1, o1 + k, none⟩) hb1).trans HC1.out
      have d0 : X.cell? ⟨w.heap.size + 1, k * 40 + 1, none⟩ = some (.int .u8 0) := by
        rw [st.cell (k * 40 + 1) (by omega), CN_at _ _ _ _ _ _ (by omega)]
        simp [nodeC, pre]
      have z0 := st.fz (k * 40 + 1)
      have s9 := st.hs
      have HST := hid st
      have HB := hid hb
      clear st hb
      go_wp2
      go_region
      generalize hX : World.drew _ = Y
      have hb := hX ▸ (HB.out.setCell (p := ⟨w.heap.size + 1, k * 40 + 1, none⟩) (Nat.le_succ _) (.int .u8 (h : Int))).drew
      have st := hX ▸ (HST.out.setNode (j := k * 40 + 1) (v := .int .u8 (h : Int)) (by omega) (CN_H _ _ _ _ k h)).drew
      clear hX HST HB d0 z0 r0 s9
      have r0 : Y.cell? ⟨b2, o2 + k, none⟩ = some (.int .u8 (wd : Int)) := (hb.cell (p := ⟨b2, o2 + k, none⟩) hb2).trans HC2.out
      have d0 : Y.cell? ⟨w.heap.size + 1, k * 40 + 14, none⟩ = some (.int .u8 0) := by
        rw [st.cell (k * 40 + 14) (by omega), CN_at _ _ _ _ _ _ (by omega)]
        simp [nodeC, pre]
      have z0 := st.fz (k * 40 + 14)
      have s9 := st.hs
      have HST := hid st
      have HB := hid hb
      clear st hb
      go_wp2
      go_region
      generalize hX : World.drew _ = Z
      have hb := hX ▸ (HB.out.setCell (p := ⟨w.heap.size + 1, k * 40 + 14, none⟩) (Nat.le_succ _) (.int .u8 (wd : Int))).drew
      have st := hX ▸ (HST.out.setNode (j := k * 40 + 14) (v := .int .u8 (wd : Int)) (by omega) (CN_W _ _ _ _ k wd)).drew
      clear hX HST HB d0 z0 r0 s9
      rw [HF.out, HH.out, HW.out, pre_succ, pre_succ, pre_succ] at st
      go_wp2
      go_roundw
      case rel => exact ⟨k + 1, by omega, by go_num, st, hb⟩
      case measure => simp [intOf]; omega
    · obtain rfl : k = n := by omega
      go_wp2
      go_ret
      exact ⟨rfl, st, hb⟩

end Go.Proofs.Qxb6600263a
