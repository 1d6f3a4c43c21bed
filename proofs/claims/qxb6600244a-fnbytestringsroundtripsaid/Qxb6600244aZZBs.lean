import Derived.Test.Qxb6600244aBs2
import Derived.Test.Qxb6600244aModelBs
namespace Go.Proofs.Qxb6600244a
open Go.RowKit

/-- What behind a call of ZZByteStrings is known: the strings, what is left, failure. -/
def Zbd (B : Nat) (w : World) (s : St) (e : Ending) (w' : World) : Prop :=
  ∃ (ra : Option Addr) (rc : Nat) (a' : Option Addr) (n' c' : Nat), e = .returned (.tuple #[.slice ra (arrS s).1 rc, .slice a' n' c', .bool (bsS s).2.fl]) ∧ RowV w'.heap.size B w' ra (arrS s).1 (bsS s).1 ∧ BV B w' a' n' (bsS s).2.zs ∧ Below B w w'

set_option maxHeartbeats 1000000 in
theorem zzByteStrings_any (a : Option Addr) (n c : Nat) (s : St) (va : Option Addr) (vn : Nat) (vs0 : List Value) (w : World) (B base : Nat) (hBb : B ≤ base) (hbase : base ≤ w.heap.size) (hB : BV B w a n s.zs) (hn : n ≤ 2097152) (hnc : n ≤ c) (hc : c ≤ maxLen)
    (hown : w.ownsRow base 22 1 (.slice va vn vn) vn vs0) (hvn : vn ≤ 2097152) :
    Calls Try.prog 19 #[.slice a n c, .bool s.fl, .slice va vn vn] w fun e w' => Zbd B w s e w' := by
  obtain ⟨zs, fl⟩ := s
  simp only at hB
  have hb : Below w.heap.size w (w.alloc (.cells #[.slice a n c, .bool fl] 50)) := (Below.refl _ _).alloc (Nat.le_refl _) _
  have hR : Rd (w.alloc (.cells #[.slice a n c, .bool fl] 50)) w.heap.size a n c fl := heap_alloc_new w _
  have hrd : Reads B (w.alloc (.cells #[.slice a n c, .bool fl] 50)) w.heap.size ⟨zs, fl⟩ := ⟨a, n, c, hR, hB.mono (hb.mono (by omega)), hnc, hc⟩
  have C := byteStrings_any w.heap.size ⟨zs, fl⟩ va vn vs0 (w.alloc (.cells #[.slice a n c, .bool fl] 50)) B base (by omega) hBb (by simp; omega) hrd (by show zs.length ≤ _; rw [hB.len]; exact hn) (hown.alloc _) hvn
  have C2 : Calls Try.prog 27 #[.pointer (some ⟨w.heap.size, 0, none⟩), .slice va vn vn] (w.alloc (.cells #[.slice a n c, .bool fl] 50)) fun e w' => ∃ (ra : Option Addr) (rc : Nat) (a' : Option Addr) (n' c' : Nat), e = .returned (.slice ra (arrS ⟨zs, fl⟩).1 rc) ∧
      w'.cell? ⟨w.heap.size, 0, none⟩ = some (.slice a' n' c') ∧ w'.cell? ⟨w.heap.size, 1, none⟩ = some (.bool (bsS ⟨zs, fl⟩).2.fl) ∧
      Hid (RowV w'.heap.size B w' ra (arrS ⟨zs, fl⟩).1 (bsS ⟨zs, fl⟩).1 ∧ BV B w' a' n' (bsS ⟨zs, fl⟩).2.zs ∧ Below B w w') := by
    refine C.mono ?_
    rintro e w' ⟨ra, rc, rfl, vs, ho, hi, hr, hbl⟩
    obtain ⟨a', n', c', hR', hV', _, _⟩ := hr.ex
    obtain ⟨q0, q1, _⟩ := hR'.cells
    exact ⟨ra, rc, a', n', c', rfl, q0, q1, RowV.of ho hi (runS_length _ _), hV', (hb.mono (by omega)).trans hbl⟩
  obtain ⟨N, hN⟩ : ∃ N, N = (arrS ⟨zs, fl⟩).1 := ⟨_, rfl⟩
  obtain ⟨T, hT⟩ : ∃ T, T = bsS ⟨zs, fl⟩ := ⟨_, rfl⟩
  unfold Zbd
  rw [← hN, ← hT] at C2
  rw [← hN, ← hT]
  obtain ⟨F, hF⟩ : ∃ F, F = T.2.fl := ⟨_, rfl⟩
  rw [← hF] at C2
  rw [← hF]
  clear C hrd hR hb hB hown hN hT hF
  go_enter Try.func19, Try.ntmps19
  go_wp2_with (go_at_call 27; refine C2.mono ?_; rintro e w1 ⟨ra, rc, a', n', c', rfl, q0, q1, HH⟩)
  go_quiet (fail)
  go_wp2
  go_ret3
  refine ⟨ra, rc, a', n', c', rfl, ?_, HH.out.2.1.drewN, below_drewN HH.out.2.2 _⟩
  have h := HH.out.1
  exact ⟨h.len, fun i hi => by obtain ⟨b, off, ai, ni, ci, e, hb, hcl, hv⟩ := h.cell i hi; exact ⟨b, off, ai, ni, ci, e, hb, hcl, hv.drewN⟩⟩

end Go.Proofs.Qxb6600244a
