import Derived.Test.Qxb6600244aReader2
import Derived.BigRegion
namespace Go.Proofs.Qxb6600244a
open Go.RowKit

theorem Try.info22 : (Try.prog.info? 22).map (fun i => (i.zero, i.size, i.bytes)) = some (some (.slice none 0 0), 1, 24) := by kernel_rfl

/-- The first k cells of a row are slices that lead to the bytes of L. -/
def Its (B : Nat) (w : World) (vs : List Value) (k : Nat) (L : List (List Nat)) : Prop :=
  ∀ j, j < k → ∃ aj nj cj, vs[j]? = some (.slice aj nj cj) ∧ BV B w aj nj (L.getD j [])

theorem Its.zero (B : Nat) (w : World) (vs : List Value) (L : List (List Nat)) : Its B w vs 0 L := fun j hj => by omega

theorem Its.mono {B : Nat} {w w' : World} {vs : List Value} {k : Nat} {L : List (List Nat)} (h : Its B w vs k L) (hb : Below B w w') : Its B w' vs k L := fun j hj => by
  obtain ⟨aj, nj, cj, h1, h2⟩ := h j hj
  exact ⟨aj, nj, cj, h1, h2.mono hb⟩

theorem Its.step {B : Nat} {w : World} {vs : List Value} {k : Nat} {s : St} (h : Its B w vs k (runS s k).1) {a : Option Addr} {n c : Nat} (hb : BV B w a n (oneS (runS s k).2).1) (hk : k < vs.length) :
    Its B w (vs.set k (.slice a n c)) (k + 1) (runS s (k + 1)).1 := by
  intro j hj
  by_cases e : j = k
  · subst e
    exact ⟨a, n, c, by simp [hk], by rw [runS_last]; exact hb⟩
  · obtain ⟨aj, nj, cj, h1, h2⟩ := h j (by omega)
    exact ⟨aj, nj, cj, by rw [List.getElem?_set_ne (by omega)]; exact h1, by rw [runS_get s k j (by omega)]; exact h2⟩

/-- A row of slices and the box of a reader are two blocks. -/
theorem Rd.other {w : World} {g n c : Nat} {a : Option Addr} {fl : Bool} (h : Rd w g a n c fl) {base m d : Nat} {x : Option Addr} {xs : List Value} (ho : w.ownsRow base 22 1 (.slice x m d) m xs) : some g ≠ (Value.slice x m d).ownBlock := by
  intro e
  rcases ho.2 with ⟨hv, _⟩ | ⟨g', cap, cur, hv, _, hh, _⟩
  · rw [hv] at e; simp [Value.ownBlock] at e
  · rw [hv] at e
    simp [Value.ownBlock] at e
    subst e
    unfold Rd at h
    rw [hh] at h
    simp at h

theorem Its.drewN {B : Nat} {w : World} {vs : List Value} {k : Nat} {L : List (List Nat)} (h : Its B w vs k L) (q : Nat) : Its B (w.drewN q) vs k L := fun j hj => by
  obtain ⟨aj, nj, cj, h1, h2⟩ := h j hj
  exact ⟨aj, nj, cj, h1, h2.drewN⟩

theorem Reads.drewN {B : Nat} {w : World} {g : Nat} {s : St} (h : Reads B w g s) (q : Nat) : Reads B (w.drewN q) g s := by
  obtain ⟨a, n, c, h1, h2, h3, h4⟩ := h.ex
  exact ⟨a, n, c, h1, h2.drewN, h3, h4⟩

theorem setCell_two (w : World) (p q : Addr) (u v : Value) (h : ¬ p.block = q.block) : (w.setCell p u).setCell q v = (w.setCell q v).setCell p u := by
  simp only [World.setCell]
  congr 1
  apply Array.ext
  · simp
  · intro i h1 h2
    simp only [Array.getElem_modify]
    by_cases e1 : q.block = i
    · by_cases e2 : p.block = i
      · exact absurd (e2.trans e1.symm) h
      · rw [if_pos e1, if_neg e2, if_neg e2, if_pos e1]
    · rw [if_neg e1, if_neg e1]

/-- What a round hands on. -/
def Rel (B base : Nat) (w : World) (g : Nat) (s : St) (ra : Option Addr) (n rc k : Nat) (wr : World) : Prop :=
  ∃ vs, wr.ownsRow base 22 1 (.slice ra n rc) n vs ∧ Its B wr vs k (runS s k).1 ∧ Reads B wr g (runS s k).2 ∧ Below B w wr

/-- The store of an item, whatever way it was read. -/
theorem rel_step {B base g k n rc gr : Nat} {w wr : World} {s : St} {vs : List Value} (hB : B ≤ gr) (hown : wr.ownsRow base 22 1 (.slice (some ⟨gr, 0, none⟩) n rc) n vs) (hits : Its B wr vs k (runS s k).1)
    {a' : Option Addr} {n' c' : Nat} (hR : Rd wr g a' n' c' (oneS (runS s k).2).2.fl) (hV : BV B wr a' n' (oneS (runS s k).2).2.zs) (hnc : n' ≤ c') (hc : c' ≤ maxLen) (hb : Below B w wr)
    {ia : Option Addr} {ni ci : Nat} (hi : BV B wr ia ni (oneS (runS s k).2).1) (hk : k < n) :
    Rel B base w g s (some ⟨gr, 0, none⟩) n rc (k + 1) (wr.setCell ⟨gr, k, none⟩ (.slice ia ni ci)) := by
  have hbs := hb.setCell (p := ⟨gr, k, none⟩) hB (.slice ia ni ci)
  have hb1 : Below B wr (wr.setCell ⟨gr, k, none⟩ (.slice ia ni ci)) := (Below.refl B wr).setCell (p := ⟨gr, k, none⟩) hB _
  have hne := hR.other hown
  refine ⟨vs.set k (.slice ia ni ci), (hown.stored k (.slice ia ni ci)).1, (hits.step hi (by have := hown.1; omega)).mono hb1, ⟨a', n', c', ?_, hV.mono hb1, hnc, hc⟩, hbs⟩
  exact (heap_setCell_other wr ⟨gr, k, none⟩ g _ (fun e => hne (by simp [Value.ownBlock, e]))).trans hR

/-- The two stores of the fast way. -/
theorem rel_fast {B base g k n rc gr : Nat} {w wr : World} {s : St} {vs : List Value} (hBg : B ≤ g) (hB : B ≤ gr) (hown : wr.ownsRow base 22 1 (.slice (some ⟨gr, 0, none⟩) n rc) n vs) (hits : Its B wr vs k (runS s k).1)
    {a : Option Addr} {na ca : Nat} (hR : Rd wr g a na ca false) {a' : Option Addr} {n' c' : Nat} (hV : BV B wr a' n' (oneS (runS s k).2).2.zs) (hfl : (oneS (runS s k).2).2.fl = false) (hnc : n' ≤ c') (hc : c' ≤ maxLen) (hb : Below B w wr)
    {ia : Option Addr} {ni ci : Nat} (hi : BV B wr ia ni (oneS (runS s k).2).1) (hk : k < n) (q : Nat) :
    Rel B base w g s (some ⟨gr, 0, none⟩) n rc (k + 1) (((wr.drewN q).setCell ⟨gr, k, none⟩ (.slice ia ni ci)).setCell ⟨g, 0, none⟩ (.slice a' n' c')) := by
  have hne := hR.other hown
  have hne' : ¬ g = gr := fun e => hne (by simp [Value.ownBlock, e])
  -- the two stores are at two blocks: the reader first
  have hO : Only g wr (wr.setCell ⟨g, 0, none⟩ (.slice a' n' c')) := Only.set g 0 wr _
  have hbO := hO.below hBg (Nat.le_of_lt hR.lt)
  have h1 := rel_step (w := w) (wr := wr.setCell ⟨g, 0, none⟩ (.slice a' n' c')) (ci := ci) hB (ownsRow_setCell_other hown (fun e => hne e.symm) _) (hits.mono hbO) (by rw [hfl]; exact hR.setD a' n' c') (hV.mono hbO) hnc hc (hb.trans hbO) (hi.mono hbO) hk
  obtain ⟨vs', g1, g2, g3, g4⟩ := h1
  have heq : ((wr.drewN q).setCell ⟨gr, k, none⟩ (.slice ia ni ci)).setCell ⟨g, 0, none⟩ (.slice a' n' c') = ((wr.setCell ⟨g, 0, none⟩ (.slice a' n' c')).setCell ⟨gr, k, none⟩ (.slice ia ni ci)).drewN q := by
    have e := setCell_two wr ⟨gr, k, none⟩ ⟨g, 0, none⟩ (.slice ia ni ci) (.slice a' n' c') (fun e => hne' e.symm)
    show ((wr.setCell ⟨gr, k, none⟩ (.slice ia ni ci)).setCell ⟨g, 0, none⟩ (.slice a' n' c')).drewN q = _
    rw [e]
  rw [heq]
  exact ⟨vs', g1, g2.drewN q, g3.drewN q, below_drewN g4 q⟩

theorem own_cut {w : World} {base n c m : Nat} {a : Option Addr} {xs : List Value} (h : w.ownsRow base 22 1 (.slice a n c) n xs) (hm : m ≤ n) : ∃ ys, w.ownsRow base 22 1 (.slice a m c) m ys := by
  rcases h.2 with ⟨hv, h0⟩ | ⟨g, cap, cur, hv, hb, hh, hnc, hcm, hcs, ht⟩
  · obtain rfl : m = 0 := by omega
    simp at hv
    obtain ⟨rfl, _, rfl⟩ := hv
    exact ⟨[], World.ownsRow_nil _ _ _ _⟩
  · simp at hv
    obtain ⟨rfl, rfl⟩ := hv
    exact ⟨cur.toList.take (m * 1), by simp; omega, .inr ⟨g, c, cur, rfl, hb, hh, by omega, hcm, hcs, rfl⟩⟩

theorem own_at {w : World} {base n c k : Nat} {a : Option Addr} {xs : List Value} (h : w.ownsRow base 22 1 (.slice a n c) n xs) (hk : k < n) :
    ∃ gr u, a = some ⟨gr, 0, none⟩ ∧ base ≤ gr ∧ w.cell? ⟨gr, k, none⟩ = some u ∧ w.frozen? ⟨gr, k, none⟩ = false := by
  rcases h.2 with ⟨hv, h0⟩ | ⟨g, cap, cur, hv, hb, hh, hnc, hcm, hcs, ht⟩
  · omega
  · simp at hv
    obtain ⟨rfl, rfl⟩ := hv
    have hl := h.1
    refine ⟨g, xs[k]'(by omega), rfl, hb, ?_, h.frozenAt k⟩
    rw [h.cellAt k (by omega), List.getElem?_eq_getElem (by omega)]

end Go.Proofs.Qxb6600244a
