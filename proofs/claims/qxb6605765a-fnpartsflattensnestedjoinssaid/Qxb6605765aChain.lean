/-
  Joins laid one on another: joined = Join(joined, New(text)): what Parts makes of them. Plain, no walk.
-/
import Derived.Test.Qxb6605765aJoin2
import Derived.Test.Qxb6605765aBytes
namespace Go.Proofs.Qxb6605765a
open Go.RowKit

/-- v is the join of the first k texts of xs, one on another; its parts: es. -/
def ChainOf (w : World) (xs : List Value) (k : Nat) (v : Value) (es : List Value) : Prop :=
  es.length = k ∧ (∀ i, i < k → ∃ s, xs.getD i .nilIface = .string s ∧ Lay w s 0 (es.getD i .nilIface)) ∧ PartsOf k w v es ∧ (k = 0 → v = .nilIface) ∧ (0 < k → ∃ a, v = .iface 56 (.pointer (some a)))

def Chain (w : World) (xs : List Value) (k : Nat) (v : Value) : Prop := ∃ es, ChainOf w xs k v es

theorem Lay.later0 {w w' : World} (hb : Below w.heap.size w w') {s : ByteArray} {v : Value} (h : Lay w s 0 v) : Lay w' s 0 v := by
  obtain ⟨b, o, rfl, hc⟩ := h
  exact ⟨b, o, rfl, cell_later hb hc⟩

theorem ChainOf.later {w w' : World} (hb : Below w.heap.size w w') {xs es : List Value} {k : Nat} {v : Value} (h : ChainOf w xs k v es) : ChainOf w' xs k v es :=
  ⟨h.1, fun i hi => let ⟨s, e, hl⟩ := h.2.1 i hi; ⟨s, e, hl.later0 hb⟩, h.2.2.1.later hb, h.2.2.2⟩

theorem Chain.later {w w' : World} (hb : Below w.heap.size w w') {xs : List Value} {k : Nat} {v : Value} (h : Chain w xs k v) : Chain w' xs k v :=
  let ⟨es, he⟩ := h; ⟨es, he.later hb⟩

theorem Chain.zero (w : World) (xs : List Value) : Chain w xs 0 .nilIface :=
  ⟨[], rfl, fun _ hi => absurd hi (Nat.not_lt_zero _), .inl ⟨rfl, rfl⟩, fun _ => rfl, fun h => absurd h (Nat.not_lt_zero _)⟩

theorem Chain.isErr {w : World} {xs : List Value} {k : Nat} {v : Value} (h : Chain w xs k v) : IsErr v :=
  let ⟨_, he⟩ := h; he.2.2.1.isErr

theorem getD_snoc_lt (l : List Value) (x d : Value) (i : Nat) (h : i < l.length) : (l ++ [x]).getD i d = l.getD i d := by
  simp [List.getD_eq_getElem?_getD, List.getElem?_append_left h]

theorem getD_snoc_at (l : List Value) (x d : Value) : (l ++ [x]).getD l.length d = x := by
  simp [List.getD_eq_getElem?_getD]

theorem Chain.step {w wn w' : World} {xs : List Value} {k : Nat} {v v' : Value} {s : ByteArray} {b o : Nat} (h : Chain w xs k v) (hs : xs.getD k .nilIface = .string s) (hbn : Below w.heap.size w wn)
    (hn : wn.cell? ⟨b, o, none⟩ = some (.string s)) (hj : IsJoin w' v' (live [v, .iface 52 (.pointer (some ⟨b, o, none⟩))])) (hb : Below wn.heap.size wn w') : Chain w' xs (k + 1) v' := by
  obtain ⟨es, hl, ht, hp, h0, h1⟩ := h
  have hbw : Below w.heap.size w w' := hbn.trans (hb.mono hbn.size)
  refine ⟨es ++ [.iface 52 (.pointer (some ⟨b, o, none⟩))], by simp [hl], ?_, ?_, fun h => by omega, fun _ => ?_⟩
  · intro i hi
    by_cases e : i < k
    · obtain ⟨s', e1, e2⟩ := ht i e
      exact ⟨s', e1, by rw [getD_snoc_lt _ _ _ _ (by omega)]; exact e2.later0 hbw⟩
    · obtain rfl : i = es.length := by omega
      refine ⟨s, by rw [← hs, hl], ?_⟩
      rw [getD_snoc_at]
      exact ⟨b, o, rfl, cell_later hb hn⟩
  · refine .inr ?_
    by_cases hk : k = 0
    · obtain rfl := h0 hk
      obtain rfl : es = [] := List.eq_nil_of_length_eq_zero (by omega)
      subst hk
      refine ⟨[.iface 52 (.pointer (some ⟨b, o, none⟩))], [[.iface 52 (.pointer (some ⟨b, o, none⟩))]], hj, rfl, ?_, by simp, by simp⟩
      intro i hi
      obtain rfl : i = 0 := by simpa using hi
      exact .inr (.inr ⟨_, rfl, rfl⟩)
    · obtain ⟨a, rfl⟩ := h1 (by omega)
      refine ⟨[.iface 56 (.pointer (some a)), .iface 52 (.pointer (some ⟨b, o, none⟩))], [es, [.iface 52 (.pointer (some ⟨b, o, none⟩))]], hj, rfl, ?_, by simp, by simp⟩
      intro i hi
      by_cases e : i = 0
      · subst e
        exact hp.later hbw
      · obtain rfl : i = 1 := by simp at hi; omega
        exact PartsOf.up (Nat.zero_le _) (.inr (.inr ⟨_, rfl, rfl⟩))
  · obtain ⟨b', g, c, rfl, _⟩ := hj
    exact ⟨_, rfl⟩

theorem live_snoc (v : Value) (t : TypeId) (x : Value) : live [v, .iface t x] ≠ [] := by
  simp only [live, List.filter_cons]
  split <;> simp [some?]
end Go.Proofs.Qxb6605765a
