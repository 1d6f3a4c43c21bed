import Derived.Test.Qxb6600168aLaw
namespace Go.Proofs.Qxb6600168a
open Go.RowKit

/-- The box of an Invocation. -/
def Inv (w : World) (g : Nat) (vb : ByteArray) (P A : Value) : Prop :=
  w.heap[g]? = some (.cells #[.string vb, P, .slice none 0 0, .slice none 0 0, .string ByteArray.empty, .string ByteArray.empty, .bool false, .string ByteArray.empty, A, .int .i64 0, .bool false] 44 (0, 0))

theorem Inv.cells {w : World} {g : Nat} {vb : ByteArray} {P A : Value} (h : Inv w g vb P A) :
    w.cell? ⟨g, 0, none⟩ = some (.string vb) ∧ w.cell? ⟨g, 1, none⟩ = some P ∧ w.cell? ⟨g, 8, none⟩ = some A ∧ ∀ j, w.frozen? ⟨g, j, none⟩ = false := by
  unfold Inv at h
  refine ⟨by simp [World.cell?, h], by simp [World.cell?, h], by simp [World.cell?, h], fun j => by simp [World.frozen?, h]⟩

theorem Inv.grown {w w' : World} {g : Nat} {vb : ByteArray} {P A : Value} {row : Option Nat} (h : Inv w g vb P A) (hg : w.grownBy w' row) (hne : some g ≠ row) : Inv w' g vb P A :=
  (hg.block g (lt_of_block h) hne).trans h

theorem Inv.other {w : World} {g : Nat} {vb : ByteArray} {P A : Value} (h : Inv w g vb P A) {base n c : Nat} {a : Option Addr} {xs : List Value} (ho : w.ownsRow base 9 1 (.slice a n c) n xs) : some g ≠ (Value.slice a n c).ownBlock := by
  intro e
  rcases ho.2 with ⟨hv, _⟩ | ⟨g', cap, cur, hv, _, hh, _⟩
  · rw [hv] at e; simp [Value.ownBlock] at e
  · rw [hv] at e
    simp [Value.ownBlock] at e
    subst e
    unfold Inv at h
    rw [hh] at h
    simp at h

theorem Inv.setA {w : World} {g : Nat} {vb : ByteArray} {P A A' : Value} (h : Inv w g vb P A) : Inv (w.setCell ⟨g, 8, none⟩ A') g vb P A' := by
  unfold Inv at *
  have := heap_setCell_same w g 8 _ 44 A' h
  rw [this]
  rfl

theorem Inv.setP {w : World} {g : Nat} {vb : ByteArray} {P P' A : Value} (h : Inv w g vb P A) : Inv (w.setCell ⟨g, 1, none⟩ P') g vb P' A := by
  unfold Inv at *
  have := heap_setCell_same w g 1 _ 44 P' h
  rw [this]
  rfl

/-- What behind a call of positional is known. -/
structure Posd (B : Nat) (w w' : World) (g : Nat) (pn : Nat) (ps' : List ByteArray) (an : Nat) (as' : List ByteArray) : Prop where
  ex : ∃ pa pc aa ac, w'.cell? ⟨g, 1, none⟩ = some (.slice pa pn pc) ∧ w'.cell? ⟨g, 8, none⟩ = some (.slice aa an ac) ∧ SV w'.heap.size w' pa pn ps' ∧ SV w'.heap.size w' aa an as' ∧ pn ≤ pc ∧ an ≤ ac
  below : Below B w w'

theorem ob_ne {pa aa : Option Addr} {pn pc an ac bA : Nat} {w : World} {xs : List Value} (hA : w.ownsRow bA 9 1 (.slice aa an ac) an xs) (hPA : ∀ k, (Value.slice pa pn pc).ownBlock = some k → k < bA) :
    (Value.slice pa pn pc).ownBlock = none ∨ (Value.slice pa pn pc).ownBlock ≠ (Value.slice aa an ac).ownBlock := by
  cases h : (Value.slice pa pn pc).ownBlock with
  | none => exact .inl rfl
  | some k =>
    right
    intro e
    have h1 := hPA k h
    have h2 := (hA.lt k e.symm).1
    omega

/-- Behind the first append and its store. -/
theorem step1 {g : Nat} {vb : ByteArray} {pa aa ar a' : Option Addr} {pn pc an ac nr c' : Nat} {ps ys rs : List ByteArray} {w w1 : World} {B bA : Nat}
    (hI : Inv w g vb (.slice pa pn pc) (.slice aa an ac)) (hB : B ≤ g) (hBA : B ≤ bA)
    (hP : w.ownsRow B 9 1 (.slice pa pn pc) pn (ps.map Value.string)) (hA : w.ownsRow bA 9 1 (.slice aa an ac) an (ys.map Value.string)) (hPA : ∀ k, (Value.slice pa pn pc).ownBlock = some k → k < bA)
    (hR : SV B w ar nr rs) (hown' : w1.ownsRow bA 9 1 (.slice a' (an + nr) c') (an + nr) (ys.map Value.string ++ rs.map Value.string)) (hgrow : w.grownBy w1 (Value.slice aa an ac).ownBlock) :
    Inv (w1.setCell ⟨g, 8, none⟩ (.slice a' (an + nr) c')) g vb (.slice pa pn pc) (.slice a' (an + nr) c') ∧
    (w1.setCell ⟨g, 8, none⟩ (.slice a' (an + nr) c')).ownsRow B 9 1 (.slice pa pn pc) pn (ps.map Value.string) ∧
    (w1.setCell ⟨g, 8, none⟩ (.slice a' (an + nr) c')).ownsRow bA 9 1 (.slice a' (an + nr) c') (an + nr) ((ys ++ rs).map Value.string) ∧
    SV B (w1.setCell ⟨g, 8, none⟩ (.slice a' (an + nr) c')) ar nr rs ∧ Below B w (w1.setCell ⟨g, 8, none⟩ (.slice a' (an + nr) c')) := by
  have hown := hown'
  rw [← List.map_append] at hown
  have hI1 := hI.grown hgrow (hI.other hA)
  have hg := lt_of_block hI
  have hb : Below B w (w1.setCell ⟨g, 8, none⟩ (.slice a' (an + nr) c')) :=
    ((Below.refl B w).grown hgrow (by omega) (fun k hk => by have := (hA.lt k hk).1; omega)).setCell (p := ⟨g, 8, none⟩) hB _
  refine ⟨hI1.setA, ?_, ?_, hR.mono hb, hb⟩
  · exact ownsRow_setCell_other (hP.kept hgrow (ob_ne hA hPA)) (fun e => hI.other hP e.symm) _
  · exact ownsRow_setCell_other hown (fun e => hI1.other hown e.symm) _

/-- The end where nothing is added to the patterns. -/
theorem fin1 {g : Nat} {vb : ByteArray} {pa aa : Option Addr} {pn pc an ac : Nat} {ps ys : List ByteArray} {w w2 : World} {B bA : Nat}
    (hI : Inv w2 g vb (.slice pa pn pc) (.slice aa an ac)) (hP : w2.ownsRow B 9 1 (.slice pa pn pc) pn (ps.map Value.string)) (hA : w2.ownsRow bA 9 1 (.slice aa an ac) an (ys.map Value.string)) (hb : Below B w w2) :
    Posd B w w2 g pn ps an ys :=
  ⟨⟨pa, pc, aa, ac, hI.cells.2.1, hI.cells.2.2.1, own_SV hP, own_SV hA, (own_len hP).1, (own_len hA).1⟩, hb⟩

/-- The end behind the second append and its store. -/
theorem fin2 {g : Nat} {vb : ByteArray} {pa aa pa' : Option Addr} {pn pc an ac nt pc' : Nat} {ps ys ts : List ByteArray} {w w2 w3 : World} {B bA : Nat}
    (hI : Inv w2 g vb (.slice pa pn pc) (.slice aa an ac)) (hB : B ≤ g) (hP : w2.ownsRow B 9 1 (.slice pa pn pc) pn (ps.map Value.string)) (hA : w2.ownsRow bA 9 1 (.slice aa an ac) an (ys.map Value.string))
    (hPA : ∀ k, (Value.slice pa pn pc).ownBlock = some k → k < bA) (hb : Below B w w2)
    (hown' : w3.ownsRow B 9 1 (.slice pa' (pn + nt) pc') (pn + nt) (ps.map Value.string ++ ts.map Value.string)) (hgrow : w2.grownBy w3 (Value.slice pa pn pc).ownBlock) :
    Posd B w (w3.setCell ⟨g, 1, none⟩ (.slice pa' (pn + nt) pc')) g (pn + nt) (ps ++ ts) an ys := by
  have hown := hown'
  rw [← List.map_append] at hown
  have hI3 := hI.grown hgrow (hI.other hP)
  have hg := lt_of_block hI
  have hb4 : Below B w (w3.setCell ⟨g, 1, none⟩ (.slice pa' (pn + nt) pc')) :=
    (hb.grown hgrow (by omega) (fun k hk => (hP.lt k hk).1)).setCell (p := ⟨g, 1, none⟩) hB _
  have hne : (Value.slice aa an ac).ownBlock = none ∨ (Value.slice aa an ac).ownBlock ≠ (Value.slice pa pn pc).ownBlock := by
    rcases ob_ne hA hPA with h | h
    · rw [h]
      cases h' : (Value.slice aa an ac).ownBlock <;> simp
    · exact .inr (Ne.symm h)
  have hA4 := ownsRow_setCell_other (a := ⟨g, 1, none⟩) (hA.kept hgrow hne) (fun e => hI.other hA e.symm) (.slice pa' (pn + nt) pc')
  have hP4 := ownsRow_setCell_other (a := ⟨g, 1, none⟩) hown (fun e => hI3.other hown e.symm) (.slice pa' (pn + nt) pc')
  exact fin1 hI3.setP hP4 hA4 hb4

set_option maxHeartbeats 1000000 in
theorem positional_test (vb : ByteArray) (g : Nat) (pa aa ar : Option Addr) (pn pc an ac nr cr : Nat) (ps ys rs : List ByteArray) (w : World) (B bA : Nat)
    (h1 : (vb.toList == [116, 101, 115, 116]) = true) (hI : Inv w g vb (.slice pa pn pc) (.slice aa an ac)) (hB : B ≤ g) (hBA : B ≤ bA) (hbA : bA ≤ w.heap.size)
    (hP : w.ownsRow B 9 1 (.slice pa pn pc) pn (ps.map Value.string)) (hA : w.ownsRow bA 9 1 (.slice aa an ac) an (ys.map Value.string)) (hPA : ∀ k, (Value.slice pa pn pc).ownBlock = some k → k < bA)
    (hR : SV B w ar nr rs) (hnil : ar = none → nr = 0 ∧ cr = 0) (han : an ≤ 1048576) (hnr : nr ≤ 1048576) :
    Calls Try.prog 33 #[.pointer (some ⟨g, 0, none⟩), .slice ar nr cr, .bool false] w fun e w' => e = .returned (.tuple #[]) ∧ Posd B w w' g pn ps (an + nr) (ys ++ rs) := by
  obtain ⟨c0, c1, c8, cf⟩ := hI.cells
  go_enter Try.func33, Try.ntmps33
  go_wp2_with (at_builtin; refine wpList_append_strs rfl _ _ rfl bA aa an ac ys rfl hA B ar nr cr rs rfl hR hnil han hnr hbA ?_)
  intro a' c' w1 hown hgrow
  obtain ⟨d0, d1, d8, df⟩ := (hI.grown hgrow (hI.other hA)).cells
  obtain ⟨r1, r2, r3, r4, r5⟩ := step1 hI hB hBA hP hA hPA hR hown hgrow
  have F := fin1 r1 r2 r3 r5
  clear r1 r2 r3 r4 r5 hown hgrow hI hP hA hPA hR
  go_wp2
  go_end0
  exact ⟨rfl, F⟩

theorem SV.tail {B : Nat} {w : World} {b off n : Nat} {ss : List ByteArray} (h : SV B w (some ⟨b, off, none⟩) n ss) : SV B w (some ⟨b, off + 1, none⟩) (n - 1) (ss.drop 1) := by
  refine ⟨by simp [h.1], fun i hi => ?_⟩
  obtain ⟨b', off', e, hb, hc⟩ := h.2 (i + 1) (by omega)
  simp only [Option.some.injEq, Addr.mk.injEq, and_true] at e
  obtain ⟨rfl, rfl⟩ := e
  refine ⟨b, off + 1, rfl, hb, ?_⟩
  rw [Nat.add_assoc, Nat.add_comm 1 i, hc]
  simp [List.getD]

theorem SV.none {B : Nat} {w : World} {a a' : Option Addr} {n : Nat} {ss : List ByteArray} (h : SV B w a n ss) (hn : n ≤ 1) : SV B w a' (n - 1) (ss.drop 1) :=
  ⟨by simp [h.1], fun i hi => by omega⟩

set_option maxHeartbeats 1000000 in
theorem positional_testD (vb : ByteArray) (g : Nat) (pa aa ar : Option Addr) (pn pc an ac nr cr : Nat) (ps ys rs : List ByteArray) (w : World) (B bA : Nat)
    (h1 : (vb.toList == [116, 101, 115, 116]) = true) (hI : Inv w g vb (.slice pa pn pc) (.slice aa an ac)) (hB : B ≤ g) (hBA : B ≤ bA) (hbA : bA ≤ w.heap.size)
    (hP : w.ownsRow B 9 1 (.slice pa pn pc) pn (ps.map Value.string)) (hA : w.ownsRow bA 9 1 (.slice aa an ac) an (ys.map Value.string)) (hPA : ∀ k, (Value.slice pa pn pc).ownBlock = some k → k < bA)
    (hR : SV B w ar nr rs) (hnil : ar = none → nr = 0 ∧ cr = 0) (han : an ≤ 1048576) (hnr : nr ≤ 1048576) (hpos : 0 < nr) (hcr : nr ≤ cr) :
    Calls Try.prog 33 #[.pointer (some ⟨g, 0, none⟩), .slice ar nr cr, .bool true] w fun e w' => e = .returned (.tuple #[]) ∧ Posd B w w' g pn ps (an + nr) (ys ++ rs) := by
  obtain ⟨c0, c1, c8, cf⟩ := hI.cells
  obtain ⟨br, offr, _, rfl, _⟩ := hR.at hpos
  by_cases hc1 : cr = 1
  all_goals
    try subst hc1
    go_enter Try.func33, Try.ntmps33
    go_wp2_with (at_builtin; refine wpList_append_strs rfl _ _ rfl bA aa an ac ys rfl hA B _ _ _ rs rfl hR hnil han hnr hbA ?_)
    intro a' c' w1 hown hgrow
    obtain ⟨d0, d1, d8, df⟩ := (hI.grown hgrow (hI.other hA)).cells
    obtain ⟨r1, r2, r3, r4, r5⟩ := step1 hI hB hBA hP hA hPA hR hown hgrow
    have F := fin1 r1 r2 r3 r5
    clear r1 r2 r3 r4 r5 hown hgrow hI hP hA hPA hR
    go_wp2
    go_end0
    exact ⟨rfl, F⟩

set_option maxHeartbeats 1000000 in
theorem positional_all (vb : ByteArray) (g : Nat) (pa aa ar : Option Addr) (pn pc an ac nr cr : Nat) (ps ys rs : List ByteArray) (w : World) (B bA : Nat)
    (hI : Inv w g vb (.slice pa pn pc) (.slice aa an ac)) (hB : B ≤ g) (hBA : B ≤ bA) (hbA : bA ≤ w.heap.size)
    (hP : w.ownsRow B 9 1 (.slice pa pn pc) pn (ps.map Value.string)) (hA : w.ownsRow bA 9 1 (.slice aa an ac) an (ys.map Value.string)) (hPA : ∀ k, (Value.slice pa pn pc).ownBlock = some k → k < bA)
    (hR : SV B w ar nr rs) (hnil : ar = none → nr = 0 ∧ cr = 0) (han : an ≤ 1048576) (hnr : nr ≤ 1048576) (hpn : pn ≤ 1048576) (h1 : (vb.toList == [116, 101, 115, 116]) = false) (h2 : (vb.toList == [114, 117, 110]) = false) :
    Calls Try.prog 33 #[.pointer (some ⟨g, 0, none⟩), .slice ar nr cr, .bool false] w fun e w' => e = .returned (.tuple #[]) ∧ Posd B w w' g (pn + nr) (ps ++ rs) (an + nr) (ys ++ rs) := by
  obtain ⟨c0, c1, c8, cf⟩ := hI.cells
  have hg := lt_of_block hI
  go_enter Try.func33, Try.ntmps33
  go_wp2_with (at_builtin; refine wpList_append_strs rfl _ _ rfl bA aa an ac ys rfl hA B _ _ _ rs rfl hR hnil han hnr hbA ?_)
  intro a' c' w1 hown hgrow
  have hz := hgrow.size
  obtain ⟨d0, d1, d8, df⟩ := (hI.grown hgrow (hI.other hA)).cells
  obtain ⟨r1, r2, r3, r4, r5⟩ := step1 hI hB hBA hP hA hPA hR hown hgrow
  clear hown hgrow hI hP hA hR
  go_wp2_with (at_builtin; refine wpList_append_strs rfl _ _ rfl B pa pn pc ps rfl r2 B _ _ _ rs rfl r4 hnil hpn hnr ?hb2 ?_)
  case hb2 => simp; omega
  intro a2 c2 w3 hown3 hgrow3
  obtain ⟨e0, e1, e8, ef⟩ := (r1.grown hgrow3 (r1.other r2)).cells
  have F := fin2 r1 hB r2 r3 hPA r5 hown3 hgrow3
  clear r1 r2 r3 r4 r5 hown3 hgrow3 hPA
  go_wp2
  go_end0
  exact ⟨rfl, F⟩

set_option maxHeartbeats 1000000 in
theorem positional_allD (vb : ByteArray) (g : Nat) (pa aa ar : Option Addr) (pn pc an ac nr cr : Nat) (ps ys rs : List ByteArray) (w : World) (B bA : Nat)
    (hI : Inv w g vb (.slice pa pn pc) (.slice aa an ac)) (hB : B ≤ g) (hBA : B ≤ bA) (hbA : bA ≤ w.heap.size)
    (hP : w.ownsRow B 9 1 (.slice pa pn pc) pn (ps.map Value.string)) (hA : w.ownsRow bA 9 1 (.slice aa an ac) an (ys.map Value.string)) (hPA : ∀ k, (Value.slice pa pn pc).ownBlock = some k → k < bA)
    (hR : SV B w ar nr rs) (hnil : ar = none → nr = 0 ∧ cr = 0) (han : an ≤ 1048576) (hnr : nr ≤ 1048576) (hpn : pn ≤ 1048576) (h1 : (vb.toList == [116, 101, 115, 116]) = false) (h2 : (vb.toList == [114, 117, 110]) = false) (hpos : 0 < nr) (hcr : nr ≤ cr) :
    Calls Try.prog 33 #[.pointer (some ⟨g, 0, none⟩), .slice ar nr cr, .bool true] w fun e w' => e = .returned (.tuple #[]) ∧ Posd B w w' g (pn + (nr - 1)) (ps ++ rs.drop 1) (an + nr) (ys ++ rs) := by
  obtain ⟨c0, c1, c8, cf⟩ := hI.cells
  have hg := lt_of_block hI
  obtain ⟨br, offr, _, rfl, _⟩ := hR.at hpos
  obtain ⟨rs2, hrs2⟩ : ∃ r, r = rs.drop 1 := ⟨_, rfl⟩
  have HR : Hid (rs2 = rs.drop 1) := hrs2
  rw [← hrs2]
  clear hrs2
  by_cases hc1 : cr = 1
  · subst hc1
    obtain rfl : nr = 1 := by omega
    have h0 : rs2 = [] := by rw [HR.out]; exact List.eq_nil_of_length_eq_zero (by simp [hR.1])
    subst h0
    go_enter Try.func33, Try.ntmps33
    go_wp2_with (at_builtin; refine wpList_append_strs rfl _ _ rfl bA aa an ac ys rfl hA B _ _ _ rs rfl hR hnil han hnr hbA ?_)
    intro a' c' w1 hown hgrow
    have hz := hgrow.size
    obtain ⟨d0, d1, d8, df⟩ := (hI.grown hgrow (hI.other hA)).cells
    obtain ⟨r1, r2, r3, r4, r5⟩ := step1 hI hB hBA hP hA hPA hR hown hgrow
    clear hown hgrow hI hP hA hR hnil
    go_wp2_with (at_builtin; refine wpList_append_strs rfl _ _ rfl B pa pn pc ps rfl r2 B _ _ _ [] rfl (SV.nil _ _ _) (by simp) hpn (by omega) ?hb2 ?_)
    case hb2 => simp; omega
    intro a2 c2 w3 hown3 hgrow3
    obtain ⟨e0, e1, e8, ef⟩ := (r1.grown hgrow3 (r1.other r2)).cells
    have F := fin2 (nt := 0) (ts := []) r1 hB r2 r3 hPA r5 (by simpa using hown3) hgrow3
    clear r1 r2 r3 r4 r5 hown3 hgrow3 hPA
    go_wp2
    go_end0
    exact ⟨rfl, F⟩
  · go_enter Try.func33, Try.ntmps33
    go_wp2_with (at_builtin; refine wpList_append_strs rfl _ _ rfl bA aa an ac ys rfl hA B _ _ _ rs rfl hR hnil han hnr hbA ?_)
    intro a' c' w1 hown hgrow
    have hz := hgrow.size
    obtain ⟨d0, d1, d8, df⟩ := (hI.grown hgrow (hI.other hA)).cells
    obtain ⟨r1, r2, r3, r4, r5⟩ := step1 hI hB hBA hP hA hPA hR hown hgrow
    clear hown hgrow hI hP hA hR hnil
    have r6 := r4.tail
    rw [← HR.out] at r6
    go_wp2_with (at_builtin; refine wpList_append_strs rfl _ _ rfl B pa pn pc ps rfl r2 B _ _ _ rs2 rfl r6 (by simp) hpn (by omega) ?hb2 ?_)
    case hb2 => simp; omega
    intro a2 c2 w3 hown3 hgrow3
    obtain ⟨e0, e1, e8, ef⟩ := (r1.grown hgrow3 (r1.other r2)).cells
    have F := fin2 r1 hB r2 r3 hPA r5 hown3 hgrow3
    clear r1 r2 r3 r4 r5 r6 hown3 hgrow3 hPA
    go_wp2
    go_end0
    exact ⟨rfl, F⟩

end Go.Proofs.Qxb6600168a
