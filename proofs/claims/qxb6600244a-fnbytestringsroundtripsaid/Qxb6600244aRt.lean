import Derived.Test.Qxb6600244aExact
import Derived.Test.Qxb6600244aRtPlain
namespace Go.Proofs.Qxb6600244a
open Go.RowKit

set_option maxRecDepth 100000 in
theorem shortF_any (n : Nat) (w : World) : Calls Try.prog 22 #[.int .u64 (n : Int)] w fun e w' => e = .returned (.int .u8 ((shortF n : Nat) : Int)) ∧ w' = w := by
  obtain ⟨f, hf⟩ : ∃ f, f = shortF n := ⟨_, rfl⟩
  rw [← hf]
  unfold shortF at hf
  rcases (show ((n : Int) < 24 ∧ f = 0) ∨ (¬ (n : Int) < 24 ∧ (n : Int) < 256 ∧ f = 1) ∨ (¬ (n : Int) < 24 ∧ ¬ (n : Int) < 256 ∧ (n : Int) < 65536 ∧ f = 2) ∨ (¬ (n : Int) < 24 ∧ ¬ (n : Int) < 256 ∧ ¬ (n : Int) < 65536 ∧ (n : Int) < 4294967296 ∧ f = 3) ∨
      (¬ (n : Int) < 24 ∧ ¬ (n : Int) < 256 ∧ ¬ (n : Int) < 65536 ∧ ¬ (n : Int) < 4294967296 ∧ f = 4) by
    rw [hf]
    repeat' split
    all_goals omega) with ⟨h1, rfl⟩ | ⟨h1, h2, rfl⟩ | ⟨h1, h2, h3, rfl⟩ | ⟨h1, h2, h3, h4, rfl⟩ | ⟨h1, h2, h3, h4, rfl⟩
  all_goals
    clear hf
    go_enter Try.func22, Try.ntmps22
    go_wp2
    go_ret
    exact ⟨rfl, rfl⟩

set_option maxHeartbeats 2000000 in
theorem zzBytes21 (a1 a2 : Option Addr) (n1 c1 n2 c2 : Nat) (L : List (List Nat)) (wide : Bool) (w : World) (h1 : RowA w a1 n1 c1 L) (hn2 : n2 ≤ maxLen) :
    Calls Try.prog 21 #[.slice a1 n1 c1, .slice a2 n2 c2, .bool wide] w fun e w' => Told (Small n2 n1 L) e ∧ w' = w := by
  have hn1 := Nat.le_trans h1.le h1.max
  unfold maxLen at hn1 hn2
  by_cases l1 : n1 ≤ 1048576
  · go_enter Try.func21, Try.ntmps21
    go_wp2
    go_loop [7, 8] (fun t i => ∃ (k : Nat) (r : Int), k ≤ n1 ∧ i = .int .i64 k ∧ t = .int .i64 r ∧ 0 ≤ r ∧ r ≤ 1048576 ∧ ∀ j, j < k → (L.getD j []).length ≤ 1048576) (fun _ i => n1 - (intOf i).toNat)
    case atStart => exact ⟨0, _, Nat.zero_le _, rfl, rfl, by omega, by omega, fun j hj => by omega⟩
    case round =>
      obtain ⟨k, r, hk, rfl, rfl, hr0, hr1, hall⟩ := hrel
      by_cases hlt : k < n1
      · obtain ⟨b, off, ai, ni, ci, rfl, hc, hli, hni⟩ := h1.at hlt
        unfold maxLen at hni
        have HA : Hid (ni ≤ 1048576 → ∀ j, j < k + 1 → (L.getD j []).length ≤ 1048576) := by
          intro h j hj
          by_cases e : j = k
          · rw [e, hli]; exact h
          · exact hall j (by omega)
        clear h1 hall hli
        go_wp2
        all_goals first
          | (go_ret; exact ⟨told_no, rfl⟩)
          | (go_round
             case rel => exact ⟨k + 1, _, by omega, by go_num, rfl, by omega, by omega, HA.out (by omega)⟩
             case measure => simp [intOf]; omega)
      · have HA : Hid (∀ j, j < n1 → (L.getD j []).length ≤ 1048576) := fun j hj => hall j (by omega)
        clear h1 hall
        by_cases l2 : n2 ≤ 1048576
        · by_cases l3 : r + n2 ≤ 1048576
          · go_wp2
            go_ret
            exact ⟨told_yes ⟨l2, l1, HA.out⟩, rfl⟩
          · go_wp2
            go_ret
            exact ⟨told_no, rfl⟩
        · go_wp2
          go_ret
          exact ⟨told_no, rfl⟩
  · clear h1
    go_enter Try.func21, Try.ntmps21
    go_wp2
    go_ret
    exact ⟨told_no, rfl⟩

/-- A row of slices of the call's own that lead to the bytes of L. -/
structure RowC (B : Nat) (w : World) (a : Option Addr) (n : Nat) (L : List (List Nat)) : Prop where
  len : L.length = n
  cell : ∀ i, i < n → ∃ b off ai ni, a = some ⟨b, off, none⟩ ∧ b < B ∧ w.cell? ⟨b, off + i, none⟩ = some (.slice ai ni ni) ∧ (ai = none → ni = 0) ∧ BV B w ai ni (L.getD i [])

theorem RowC.mono {B : Nat} {w w' : World} {a : Option Addr} {n : Nat} {L : List (List Nat)} (h : RowC B w a n L) (hb : Below B w w') : RowC B w' a n L :=
  ⟨h.len, fun i hi => by
    obtain ⟨b, off, ai, ni, e, hB, hc, hn, hv⟩ := h.cell i hi
    exact ⟨b, off, ai, ni, e, hB, (hb.cell (p := ⟨b, off + i, none⟩) hB).trans hc, hn, hv.mono hb⟩⟩
theorem RowC.up {B B' : Nat} {w : World} {a : Option Addr} {n : Nat} {L : List (List Nat)} (h : RowC B w a n L) (hB : B ≤ B') : RowC B' w a n L :=
  ⟨h.len, fun i hi => by
    obtain ⟨b, off, ai, ni, e, hb, hc, hn, hv⟩ := h.cell i hi
    exact ⟨b, off, ai, ni, e, by omega, hc, hn, hv.up hB⟩⟩
theorem RowC.of {g base n c : Nat} {w : World} {a : Option Addr} {vs : List Value} {L : List (List Nat)} (ho : w.ownsRow base 22 1 (.slice a n c) n vs) (hi : ItsC g w vs n L) (hL : L.length = n) : RowC w.heap.size w a n L := by
  refine ⟨hL, fun i h => ?_⟩
  obtain ⟨gr, u, rfl, _, hc, _⟩ := own_at ho h
  obtain ⟨ai, ni, h1, _, h3, h4⟩ := hi i h
  have hc2 := ho.cellAt i (by omega)
  rw [h1] at hc2
  refine ⟨gr, 0, ai, ni, rfl, World.block_lt_of_cell? w _ hc2, ?_, h3, h4⟩
  rw [Nat.zero_add]
  exact hc2

theorem rowVC {R B B' : Nat} {w : World} {a a' : Option Addr} {n : Nat} {L : List (List Nat)} (h : RowV R B w a n L) (h' : RowC B' w a' n L) {i : Nat} (hi : i < n) :
    ∃ b off b' off' ai ci aj m, a = some ⟨b, off, none⟩ ∧ a' = some ⟨b', off', none⟩ ∧ w.cell? ⟨b, off + i, none⟩ = some (.slice ai m ci) ∧ w.cell? ⟨b', off' + i, none⟩ = some (.slice aj m m) ∧ BV B w ai m (L.getD i []) ∧ BV B' w aj m (L.getD i []) := by
  obtain ⟨b, off, ai, ni, ci, e, _, hc, hv⟩ := h.cell i hi
  obtain ⟨b', off', aj, nj, e', _, hc', _, hv'⟩ := h'.cell i hi
  have e1 := hv.len
  have e2 := hv'.len
  subst e1
  subst e2
  exact ⟨b, off, b', off', ai, ci, aj, _, e, e', hc, hc', hv, hv'⟩

end Go.Proofs.Qxb6600244a
