import Derived.Test.Qxb6600168aClone
import Derived.Laws.AppendOwnNone
import Derived.OneCell
namespace Go.Proofs.Qxb6600168a
open Go.RowKit

theorem own_shape {w : World} {base e size n : Nat} {v : Value} {xs : List Value} (h : w.ownsRow base e size v n xs) : ∃ a c, v = .slice a n c := by
  rcases h.2 with ⟨rfl, rfl⟩ | ⟨g, cap, cur, rfl, _⟩
  · exact ⟨_, _, rfl⟩
  · exact ⟨_, _, rfl⟩

/-- 'append(v, x...)', v the call's own, x a row of strings whatever: nil, empty or not. -/
theorem wpList_append_strs {w : World} {ops : Array Oper} {rest : List Oper} {o : Oper} {a : Act} {Q : Exit → Act → World → Prop} (hgd : o.guard = none) (s x : Operand)
    (ho : o.op = .call { callee := .builtin .append, args := #[s, x], argTypes := #[28, 28] })
    (base : Nat) (va : Option Addr) (n vc : Nat) (xs : List ByteArray) (hs : a.eval s = .slice va n vc) (hown : w.ownsRow base 9 1 (.slice va n vc) n (xs.map Value.string))
    (B : Nat) (ao : Option Addr) (m c : Nat) (ys : List ByteArray) (hx : a.eval x = .slice ao m c) (hy : SV B w ao m ys) (hnone : ao = none → m = 0 ∧ c = 0) (hn : n ≤ 1048576) (hm : m ≤ 1048576) (hbase : base ≤ w.heap.size)
    (h : ∀ a' c' w', w'.ownsRow base 9 1 (.slice a' (n + m) c') (n + m) (xs.map Value.string ++ ys.map Value.string) → w.grownBy w' (Value.slice va n vc).ownBlock → wpList Try.prog ops Q rest (a.put o.dst (.slice a' (n + m) c')) w') :
    wpList Try.prog ops Q (o :: rest) a w := by
  obtain ⟨i0, hi, hz0, hz1, hz2⟩ := info_parts Try.info9
  cases ao with
  | none =>
    obtain ⟨rfl, rfl⟩ := hnone rfl
    obtain rfl : ys = [] := List.eq_nil_of_length_eq_zero hy.1
    refine wpList_append_own_none hgd s x 28 ho base 9 i0 1 Try.underlying28 hi _ n _ hs hown hx ?_
    exact h va vc w (by simpa using hown) (World.grownBy.refl _ _)
  | some ad =>
    have hc : ∀ j u, (ys.map Value.string)[j]? = some u → w.cell? (ad.add j) = some u := by
      intro j u hu
      have hj : j < m := by
        have := (List.getElem?_eq_some_iff.1 hu).1
        have := hy.1
        simp at *
        omega
      obtain ⟨b, off, e, _, hc⟩ := hy.2 j hj
      simp only [Option.some.injEq] at e
      subst e
      rw [Addr.add_lit, hc]
      rw [List.getElem?_map, List.getElem?_eq_getElem (show j < ys.length by have := hy.1; omega)] at hu
      simp [List.getD, List.getElem?_eq_getElem (show j < ys.length by have := hy.1; omega)]
      simpa using hu
    refine wpList_append_own w hgd s x 28 ho base 9 i0 (.string ByteArray.empty) 1 16 Try.underlying28 hi hz0 hz1 hz2 rfl (by decide) _ n _ hs hown ad m c (ys.map Value.string) hx (by simpa using hy.1) hc ?_ (by unfold maxLen; omega) (by omega) hbase ?_
    · intro u hu
      obtain ⟨_, _, rfl⟩ := List.mem_map.1 hu
      rfl
    · intro v' w' h1 h2 _
      obtain ⟨a', c', rfl⟩ := own_shape h1
      exact h a' c' w' h1 h2

end Go.Proofs.Qxb6600168a
