import Derived.Test.Qxb6600263aBase
import Derived.Laws.World
namespace Go.Proofs.Qxb6600263a
open Go.RowKit

/-- The zero Node, cell by cell. -/
def zl : List Value := [.int .u32 0, .int .u8 0, .int .u32 0, .int .u16 0, .int .u16 0, .int .u32 0, .int .u32 0, .int .u32 0, .int .u8 0, .int .u8 0, .int .u8 0, .int .u8 0, .int .u32 0, .int .u32 0, .int .u8 0, .int .u64 0, .int .u32 0, .int .u32 0,
  .int .u8 0, .int .u8 0, .int .u8 0, .int .u8 0, .int .u8 0, .int .u8 0, .int .u8 0, .int .u8 0, .int .u32 0, .int .u32 0, .int .u32 0, .int .u32 0, .int .u32 0, .int .u32 0, .int .u32 0, .int .u32 0, .int .u32 0, .int .u32 0, .int .u32 0, .int .u32 0, .slice none 0 0, .int .i64 0]
theorem Try.info47 : (Try.prog.info? 47).map (fun i => (i.zero.map (fun z => z.cells), i.size)) = some (some zl.toArray, 40) := by kernel_rfl
theorem Try.bytes47 : (Try.prog.info? 47).map (fun i => decide (i.bytes ≤ 1000)) = some true := by kernel_rfl

theorem info47 : ∃ i z, Try.prog.info? 47 = some i ∧ i.zero = some z ∧ z.cells = zl.toArray ∧ i.size = 40 ∧ i.bytes ≤ 1000 := by
  have h := Try.info47
  have hb := Try.bytes47
  cases hi : Try.prog.info? 47 with
  | none => rw [hi] at h; simp at h
  | some i =>
    rw [hi] at h hb
    simp only [Option.map_some, Option.some.injEq, Prod.mk.injEq] at h hb
    obtain ⟨h1, h2⟩ := h
    cases hz : i.zero with
    | none => rw [hz] at h1; simp at h1
    | some z =>
      rw [hz] at h1
      simp only [Option.map_some, Option.some.injEq] at h1
      exact ⟨i, z, rfl, hz, h1, h2, by simpa using hb⟩

/-- A Node's cell. -/
def nodeC (f h wd u r : Nat) : Value :=
  if r = 0 then .int .u32 (f : Int) else if r = 1 then .int .u8 (h : Int) else if r = 14 then .int .u8 (wd : Int) else if r = 39 then .int .i64 (u : Int) else zl.getD r (.int .i64 0)
/-- The cells of a row of Nodes. -/
def CN (F H Wd U : Nat → Nat) (k : Nat) : Value := nodeC (F (k / 40)) (H (k / 40)) (Wd (k / 40)) (U (k / 40)) (k % 40)
def upd (F : Nat → Nat) (i v : Nat) : Nat → Nat := fun j => if j = i then v else F j

theorem CN_at (F H Wd U : Nat → Nat) (i r : Nat) (hr : r < 40) : CN F H Wd U (i * 40 + r) = nodeC (F i) (H i) (Wd i) (U i) r := by
  unfold CN
  have e1 : (i * 40 + r) / 40 = i := by omega
  have e2 : (i * 40 + r) % 40 = r := by omega
  rw [e1, e2]
theorem split40 (k : Nat) : ∃ i r, r < 40 ∧ k = i * 40 + r := ⟨k / 40, k % 40, by omega, by omega⟩
theorem CN_F (F H Wd U : Nat → Nat) (i v k : Nat) : CN (upd F i v) H Wd U k = if k = i * 40 then .int .u32 (v : Int) else CN F H Wd U k := by
  obtain ⟨j, r, hr, rfl⟩ := split40 k
  rw [CN_at _ _ _ _ _ _ hr, CN_at _ _ _ _ _ _ hr]
  by_cases h : j = i
  · subst h
    by_cases h0 : r = 0
    · subst h0; simp [nodeC, upd]
    · rw [if_neg (by omega)]; simp [nodeC, h0]
  · rw [if_neg (by omega)]; simp [upd, h]
theorem CN_H (F H Wd U : Nat → Nat) (i v k : Nat) : CN F (upd H i v) Wd U k = if k = i * 40 + 1 then .int .u8 (v : Int) else CN F H Wd U k := by
  obtain ⟨j, r, hr, rfl⟩ := split40 k
  rw [CN_at _ _ _ _ _ _ hr, CN_at _ _ _ _ _ _ hr]
  by_cases h : j = i
  · subst h
    by_cases h0 : r = 1
    · subst h0; simp [nodeC, upd]
    · rw [if_neg (by omega)]; simp [nodeC, h0]
  · rw [if_neg (by omega)]; simp [upd, h]
theorem CN_W (F H Wd U : Nat → Nat) (i v k : Nat) : CN F H (upd Wd i v) U k = if k = i * 40 + 14 then .int .u8 (v : Int) else CN F H Wd U k := by
  obtain ⟨j, r, hr, rfl⟩ := split40 k
  rw [CN_at _ _ _ _ _ _ hr, CN_at _ _ _ _ _ _ hr]
  by_cases h : j = i
  · subst h
    by_cases h0 : r = 14
    · subst h0; simp [nodeC, upd]
    · rw [if_neg (by omega)]; simp [nodeC, h0]
  · rw [if_neg (by omega)]; simp [upd, h]
theorem CN_U (F H Wd U : Nat → Nat) (i v k : Nat) : CN F H Wd (upd U i v) k = if k = i * 40 + 39 then .int .i64 (v : Int) else CN F H Wd U k := by
  obtain ⟨j, r, hr, rfl⟩ := split40 k
  rw [CN_at _ _ _ _ _ _ hr, CN_at _ _ _ _ _ _ hr]
  by_cases h : j = i
  · subst h
    by_cases h0 : r = 39
    · subst h0; simp [nodeC, upd]
    · rw [if_neg (by omega)]; simp [nodeC, h0]
  · rw [if_neg (by omega)]; simp [upd, h]
theorem CN_zero (k : Nat) : CN (fun _ => 0) (fun _ => 0) (fun _ => 0) (fun _ => 0) k = zl.getD (k % 40) (.int .i64 0) := by
  obtain ⟨j, r, hr, rfl⟩ := split40 k
  rw [CN_at _ _ _ _ _ _ hr]
  have e2 : (j * 40 + r) % 40 = r := by omega
  rw [e2]
  unfold nodeC
  by_cases h0 : r = 0
  · subst h0; rfl
  by_cases h1 : r = 1
  · subst h1; rfl
  by_cases h2 : r = 14
  · subst h2; rfl
  by_cases h3 : r = 39
  · subst h3; rfl
  rw [if_neg h0, if_neg h1, if_neg h2, if_neg h3]

/-- What lies in memory: the Trace in block t, its Nodes in block g. -/
structure St (w : World) (t g n : Nat) (C : Nat → Value) (p : Value) : Prop where
  cell : ∀ k, k < n * 40 → w.cell? ⟨g, k, none⟩ = some (C k)
  fz : ∀ k, w.frozen? ⟨g, k, none⟩ = false
  hp : w.cell? ⟨t, 8, none⟩ = some p
  hs : w.cell? ⟨t, 9, none⟩ = some (.slice (some ⟨g, 0, none⟩) n n)
  fzt : ∀ k, w.frozen? ⟨t, k, none⟩ = false
  tg : t < g
  gw : g < w.heap.size

theorem St.setNode {w : World} {t g n : Nat} {C : Nat → Value} {p : Value} (h : St w t g n C p) {j : Nat} {v : Value} {C' : Nat → Value} (hj : j < n * 40) (hC : ∀ k, C' k = if k = j then v else C k) : St (w.setCell ⟨g, j, none⟩ v) t g n C' p := by
  have ht := h.tg
  refine ⟨fun k hk => ?_, fun k => ?_, ?_, ?_, fun k => ?_, h.tg, by simpa [World.setCell] using h.gw⟩
  · rw [hC]
    by_cases e : k = j
    · subst e; rw [if_pos rfl]; exact World.cell?_setCell_same _ _ _ (h.cell k hk)
    · rw [if_neg e, World.cell?_setCell_other _ _ _ _ (by intro e'; simp only [Addr.mk.injEq] at e'; omega)]; exact h.cell k hk
  · rw [World.frozen?_setCell]; exact h.fz k
  · rw [World.cell?_setCell_other _ _ _ _ (by intro e'; simp only [Addr.mk.injEq] at e'; omega)]; exact h.hp
  · rw [World.cell?_setCell_other _ _ _ _ (by intro e'; simp only [Addr.mk.injEq] at e'; omega)]; exact h.hs
  · rw [World.frozen?_setCell]; exact h.fzt k
theorem St.setPtr {w : World} {t g n : Nat} {C : Nat → Value} {p : Value} (h : St w t g n C p) (v : Value) : St (w.setCell ⟨t, 8, none⟩ v) t g n C v := by
  have ht := h.tg
  refine ⟨fun k hk => ?_, fun k => ?_, ?_, ?_, fun k => ?_, h.tg, by simpa [World.setCell] using h.gw⟩
  · rw [World.cell?_setCell_other _ _ _ _ (by intro e'; simp only [Addr.mk.injEq] at e'; omega)]; exact h.cell k hk
  · rw [World.frozen?_setCell]; exact h.fz k
  · exact World.cell?_setCell_same _ _ _ h.hp
  · rw [World.cell?_setCell_other _ _ _ _ (by intro e'; simp only [Addr.mk.injEq] at e'; omega)]; exact h.hs
  · rw [World.frozen?_setCell]; exact h.fzt k
theorem St.mono {w w' : World} {t g n B : Nat} {C : Nat → Value} {p : Value} (h : St w t g n C p) (hb : Below B w w') (hB : g < B) : St w' t g n C p := by
  have ht := h.tg
  refine ⟨fun k hk => ?_, fun k => ?_, ?_, ?_, fun k => ?_, h.tg, Nat.lt_of_lt_of_le h.gw hb.size⟩
  · exact (hb.cell (p := ⟨g, k, none⟩) hB).trans (h.cell k hk)
  · exact (hb.frozen (p := ⟨g, k, none⟩) hB).trans (h.fz k)
  · exact (hb.cell (p := ⟨t, 8, none⟩) (Nat.lt_trans ht hB)).trans h.hp
  · exact (hb.cell (p := ⟨t, 9, none⟩) (Nat.lt_trans ht hB)).trans h.hs
  · exact (hb.frozen (p := ⟨t, k, none⟩) (Nat.lt_trans ht hB)).trans (h.fzt k)
theorem St.congr {w : World} {t g n : Nat} {C C' : Nat → Value} {p : Value} (h : St w t g n C p) (hC : C = C') : St w t g n C' p := hC ▸ h
theorem St.drewN {w : World} {t g n : Nat} {C : Nat → Value} {p : Value} (h : St w t g n C p) (q : Nat) : St (w.drewN q) t g n C p := ⟨h.cell, h.fz, h.hp, h.hs, h.fzt, h.tg, h.gw⟩

end Go.Proofs.Qxb6600263a
