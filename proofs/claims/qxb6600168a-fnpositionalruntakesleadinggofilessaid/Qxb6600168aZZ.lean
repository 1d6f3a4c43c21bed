import Derived.Test.Qxb6600168aRunD
import Derived.Deep.QuietTactic
import Derived.BigQuiet
namespace Go.Proofs.Qxb6600168a
open Go.RowKit

/-- What positional adds to the patterns. -/
def taken (vb : ByteArray) (l : List ByteArray) : List ByteArray :=
  if (vb.toList == [116, 101, 115, 116]) = true then [] else if (vb.toList == [114, 117, 110]) = true then l.take (runN l) else l
/-- The arguments without the dashes. -/
def rpOf (dd : Bool) (rs : List ByteArray) : List ByteArray := if dd = true then rs.drop 1 else rs

theorem posd_cast {B : Nat} {w w' : World} {g pn pn' an an' : Nat} {ps' ps'' ys' ys'' : List ByteArray} (h : Posd B w w' g pn ps' an ys') (e1 : pn = pn') (e2 : ps' = ps'') (e3 : an = an') (e4 : ys' = ys'') : Posd B w w' g pn' ps'' an' ys'' := by
  subst e1; subst e2; subst e3; subst e4; exact h

theorem positional_any (vb : ByteArray) (g : Nat) (pa aa ar : Option Addr) (pn pc an ac nr cr : Nat) (ps ys rs : List ByteArray) (dd : Bool) (w : World) (B bA : Nat)
    (hI : Inv w g vb (.slice pa pn pc) (.slice aa an ac)) (hB : B ≤ g) (hBA : B ≤ bA) (hbA : bA ≤ w.heap.size)
    (hP : w.ownsRow B 9 1 (.slice pa pn pc) pn (ps.map Value.string)) (hA : w.ownsRow bA 9 1 (.slice aa an ac) an (ys.map Value.string)) (hPA : ∀ k, (Value.slice pa pn pc).ownBlock = some k → k < bA)
    (hR : SV B w ar nr rs) (hnil : ar = none → nr = 0 ∧ cr = 0) (han : an ≤ 1048576) (hnr : nr ≤ 1048576) (hpn : pn ≤ 1048576) (hcr : nr ≤ cr) (hst : ∀ s ∈ rs, s.size ≤ maxLen) (hdd : dd = true → 0 < nr) :
    Calls Try.prog 33 #[.pointer (some ⟨g, 0, none⟩), .slice ar nr cr, .bool dd] w fun e w' => e = .returned (.tuple #[]) ∧
      Posd B w w' g (pn + (taken vb (rpOf dd rs)).length) (ps ++ taken vb (rpOf dd rs)) (an + nr) (ys ++ rs) := by
  have hl := hR.1
  by_cases h1 : (vb.toList == [116, 101, 115, 116]) = true
  · have ht : ∀ l, taken vb l = [] := fun l => by unfold taken; rw [if_pos h1]
    cases dd with
    | false =>
      refine (positional_test vb g pa aa ar pn pc an ac nr cr ps ys rs w B bA h1 hI hB hBA hbA hP hA hPA hR hnil han hnr).mono fun e w' ⟨he, h⟩ => ⟨he, ?_⟩
      exact posd_cast h (by rw [ht]; rfl) (by rw [ht]; simp) rfl rfl
    | true =>
      refine (positional_testD vb g pa aa ar pn pc an ac nr cr ps ys rs w B bA h1 hI hB hBA hbA hP hA hPA hR hnil han hnr (hdd rfl) hcr).mono fun e w' ⟨he, h⟩ => ⟨he, ?_⟩
      exact posd_cast h (by rw [ht]; rfl) (by rw [ht]; simp) rfl rfl
  · have h1' : (vb.toList == [116, 101, 115, 116]) = false := by simpa using h1
    by_cases h2 : (vb.toList == [114, 117, 110]) = true
    · have ht : ∀ l, taken vb l = l.take (runN l) := fun l => by unfold taken; rw [if_neg h1, if_pos h2]
      have hlen : ∀ l : List ByteArray, (l.take (runN l)).length = runN l := fun l => by rw [List.length_take]; exact Nat.min_eq_left (runN_le l)
      cases dd with
      | false =>
        refine (positional_run vb g pa aa ar pn pc an ac nr cr ps ys rs w B bA h1' h2 hI hB hBA hbA hP hA hPA hR hnil han hnr hpn hcr hst).mono fun e w' ⟨he, h⟩ => ⟨he, ?_⟩
        exact posd_cast h (by rw [ht, hlen]; rfl) (by rw [ht]; rfl) rfl rfl
      | true =>
        have hpos := hdd rfl
        obtain ⟨br, offr, _, rfl, _⟩ := hR.at hpos
        obtain ⟨n2, rfl⟩ : ∃ n2, nr = n2 + 1 := ⟨nr - 1, by omega⟩
        obtain ⟨c2, rfl⟩ : ∃ c2, cr = c2 + 1 := ⟨cr - 1, by omega⟩
        by_cases hc2 : c2 = 0
        · subst hc2
          obtain rfl : n2 = 0 := by omega
          have e : rpOf true rs = [] := by
            show rs.drop 1 = []
            exact List.eq_nil_of_length_eq_zero (by simp [hl])
          refine (positional_runD0 vb g pa aa br offr pn pc an ac ps ys rs w B bA h1' h2 hI hB hBA hbA hP hA hPA hR han hpn).mono fun e' w' ⟨he, h⟩ => ⟨he, ?_⟩
          exact posd_cast h (by rw [e, ht]; rfl) (by rw [e, ht]; simp) rfl rfl
        · refine (positional_runD vb g pa aa br offr pn pc an ac n2 c2 ps ys rs w B bA h1' h2 hI hB hBA hbA hP hA hPA hR han hnr hpn (by omega) hst hc2).mono fun e' w' ⟨he, h⟩ => ⟨he, ?_⟩
          exact posd_cast h (by rw [ht, hlen]; rfl) (by rw [ht]; rfl) rfl rfl
    · have h2' : (vb.toList == [114, 117, 110]) = false := by simpa using h2
      have ht : ∀ l, taken vb l = l := fun l => by unfold taken; rw [if_neg h1, if_neg h2]
      cases dd with
      | false =>
        refine (positional_all vb g pa aa ar pn pc an ac nr cr ps ys rs w B bA hI hB hBA hbA hP hA hPA hR hnil han hnr hpn h1' h2').mono fun e w' ⟨he, h⟩ => ⟨he, ?_⟩
        exact posd_cast h (by rw [ht]; show _ = _ + rs.length; rw [hl]) (by rw [ht]; rfl) rfl rfl
      | true =>
        refine (positional_allD vb g pa aa ar pn pc an ac nr cr ps ys rs w B bA hI hB hBA hbA hP hA hPA hR hnil han hnr hpn h1' h2' (hdd rfl) hcr).mono fun e w' ⟨he, h⟩ => ⟨he, ?_⟩
        exact posd_cast h (by rw [ht]; show _ = _ + (rs.drop 1).length; rw [List.length_drop, hl]) (by rw [ht]; rfl) rfl rfl

/-- What behind a call of ZZPositional is known of its two results. -/
def ZZd (B : Nat) (w : World) (pn : Nat) (ps' : List ByteArray) (an : Nat) (ys' : List ByteArray) (e : Ending) (w' : World) : Prop :=
  ∃ pa pc aa ac, e = .returned (.tuple #[.slice pa pn pc, .slice aa an ac]) ∧ SV w'.heap.size w' pa pn ps' ∧ SV w'.heap.size w' aa an ys' ∧ pn ≤ pc ∧ an ≤ ac ∧ Below B w w'

set_option maxHeartbeats 1000000 in
theorem zzPositional_any (vb : ByteArray) (pa aa ar : Option Addr) (pn pc an ac nr cr : Nat) (ps ys rs : List ByteArray) (dd : Bool) (w : World) (B bA : Nat)
    (hBA : B ≤ bA) (hbA : bA ≤ w.heap.size)
    (hP : w.ownsRow B 9 1 (.slice pa pn pc) pn (ps.map Value.string)) (hA : w.ownsRow bA 9 1 (.slice aa an ac) an (ys.map Value.string)) (hPA : ∀ k, (Value.slice pa pn pc).ownBlock = some k → k < bA)
    (hR : SV B w ar nr rs) (hnil : ar = none → nr = 0 ∧ cr = 0) (han : an ≤ 1048576) (hnr : nr ≤ 1048576) (hpn : pn ≤ 1048576) (hcr : nr ≤ cr) (hst : ∀ s ∈ rs, s.size ≤ maxLen) (hdd : dd = true → 0 < nr) :
    Calls Try.prog 26 #[.string vb, .slice pa pn pc, .slice aa an ac, .slice ar nr cr, .bool dd] w fun e w' => ZZd B w (pn + (taken vb (rpOf dd rs)).length) (ps ++ taken vb (rpOf dd rs)) (an + nr) (ys ++ rs) e w' := by
  obtain ⟨N, hN⟩ : ∃ N, N = pn + (taken vb (rpOf dd rs)).length := ⟨_, rfl⟩
  obtain ⟨L, hL⟩ : ∃ L, L = ps ++ taken vb (rpOf dd rs) := ⟨_, rfl⟩
  rw [← hN, ← hL]
  have HN : Hid (N = pn + (taken vb (rpOf dd rs)).length) := hN
  have HL : Hid (L = ps ++ taken vb (rpOf dd rs)) := hL
  clear hN hL
  have C := positional_any vb w.heap.size pa aa ar pn pc an ac nr cr ps ys rs dd (w.alloc (.cells #[.string vb, .slice pa pn pc, .slice none 0 0, .slice none 0 0, .string ByteArray.empty, .string ByteArray.empty, .bool false, .string ByteArray.empty, .slice aa an ac, .int .i64 0, .bool false] 44)) B bA
    (heap_alloc_new w _) (by omega) hBA (by simp; omega) (hP.alloc _) (hA.alloc _) hPA (hR.mono ((Below.refl _ _).alloc (by omega) _)) hnil han hnr hpn hcr hst hdd
  rw [← HN.out, ← HL.out] at C
  have HC := C
  clear C
  go_enter Try.func26, Try.ntmps26
  go_wp2_with (go_at_call 33; refine HC.mono ?_; rintro e w1 ⟨rfl, hpos⟩)
  obtain ⟨⟨pa', pc', aa', ac', q1, q2, q3, q4, q5, q6⟩, hb⟩ := hpos
  clear HC
  go_quiet (fail)
  go_wp2
  go_ret2
  refine ⟨pa', pc', aa', ac', rfl, q3, q4, q5, q6, ?_⟩
  exact below_drewN ((((Below.refl B w).alloc (by omega) _)).trans hb) _

end Go.Proofs.Qxb6600168a
