import Derived.Test.Qxb6600244aHead2
namespace Go.Proofs.Qxb6600244a
open Go.RowKit

theorem info_cases {i : Nat} (h1 : 24 ≤ i) (h2 : i ≤ 27) : (i = 24 ∧ sizeOfInfo i = 1) ∨ (i = 25 ∧ sizeOfInfo i = 2) ∨ (i = 26 ∧ sizeOfInfo i = 4) ∨ (i = 27 ∧ sizeOfInfo i = 8) := by
  rcases (show i = 24 ∨ i = 25 ∨ i = 26 ∨ i = 27 by omega) with h | h | h | h
  · exact .inl ⟨h, size24 h⟩
  · exact .inr (.inl ⟨h, size25 h⟩)
  · exact .inr (.inr (.inl ⟨h, size26 h⟩))
  · exact .inr (.inr (.inr ⟨h, size27 h⟩))

theorem BV.first {B : Nat} {w : World} {a : Option Addr} {n : Nat} {zs : List Nat} (h : BV B w a n zs) (hn : 0 < n) :
    ∃ b off, a = some ⟨b, off, none⟩ ∧ b < B ∧ w.cell? ⟨b, off, none⟩ = some (.int .u8 ((zs.getD 0 0 : Nat) : Int)) ∧ zs.getD 0 0 < 256 := by
  obtain ⟨b, off, e, hb, hc, hl⟩ := h.at hn
  rw [Nat.add_zero] at hc
  exact ⟨b, off, e, hb, hc, hl⟩

theorem head_none (g m n c : Nat) (a : Option Addr) (zs : List Nat) (w : World) (B : Nat) (hR : Rd w g a n c false) (hB : BV B w a n zs) (h : hd m zs = none) :
    Calls Try.prog 26 #[.pointer (some ⟨g, 0, none⟩), .int .u8 (m : Int)] w fun e w' => e = .returned (.int .u64 0) ∧ w' = w.setCell ⟨g, 1, none⟩ (.bool true) := by
  by_cases h0 : n = 0
  · subst h0
    exact head_empty g m c a w hR
  obtain ⟨b, off, rfl, _, hz, hz'⟩ := hB.first (by omega)
  have hlen := hB.len
  by_cases h1 : zs.getD 0 0 / 32 * 32 = m
  · by_cases h2 : 27 < zs.getD 0 0 % 32
    · exact head_bad g m b off n c _ w hR hz (by omega) hz' (.inr h2)
    · by_cases h3 : zs.getD 0 0 % 32 < 24
      · rw [hd_small (by omega) h1 h3] at h
        cases h
      · by_cases h4 : zs.length < 1 + sizeOfInfo (zs.getD 0 0 % 32)
        · exact head_short g m b off n c _ _ _ w hR hz (by omega) hz' h1 rfl (info_cases (by omega) (by omega)) (by omega)
        · rw [hd_long h1 (by omega) (by omega) rfl (by omega)] at h
          cases h
  · exact head_bad g m b off n c _ w hR hz (by omega) hz' (.inl h1)

theorem head_some (g m n c v k : Nat) (a : Option Addr) (zs : List Nat) (w : World) (B : Nat) (hR : Rd w g a n c false) (hB : BV B w a n zs) (h : hd m zs = some (v, k)) (hnc : n ≤ c) (hc : c ≤ maxLen) :
    ∃ a' : Option Addr, (¬ c = k → a' = a.map (·.add k)) ∧ Calls Try.prog 26 #[.pointer (some ⟨g, 0, none⟩), .int .u8 (m : Int)] w fun e w' => e = .returned (.int .u64 (v : Int)) ∧
      w' = w.setCell ⟨g, 0, none⟩ (.slice a' (n - k) (c - k)) := by
  have hlen := hB.len
  by_cases h0 : n = 0
  · rw [hd_empty (by omega)] at h
    cases h
  obtain ⟨b, off, rfl, _, hz, hz'⟩ := hB.first (by omega)
  by_cases h1 : zs.getD 0 0 / 32 * 32 = m
  · by_cases h2 : 27 < zs.getD 0 0 % 32
    · rw [hd_over h2] at h
      cases h
    · by_cases h3 : zs.getD 0 0 % 32 < 24
      · rw [hd_small (by omega) h1 h3] at h
        cases h
        refine ⟨_, ?_, head_small g m b off n c _ w hR hz (by omega) hz' h1 h3⟩
        intro hk
        rw [if_neg hk]
        simp [Addr.add]
      · by_cases h4 : zs.length < 1 + sizeOfInfo (zs.getD 0 0 % 32)
        · rw [hd_short (by omega) rfl h4] at h
          cases h
        · rw [hd_long h1 (by omega) (by omega) rfl (by omega)] at h
          cases h
          refine ⟨_, ?_, head_long g m b off n c _ _ _ zs w B hR hB hz hz' h1 rfl (info_cases (by omega) (by omega)) (by omega) hnc hc⟩
          intro hk
          rw [if_neg hk]
          simp [Addr.add]
  · rw [hd_major h1] at h
    cases h

end Go.Proofs.Qxb6600244a
