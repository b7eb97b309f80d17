/-
  Rows that the call owns: small laws (no walk).
-/
import Derived.Test.Qxb6605765aTree
import Derived.OwnWalk
namespace Go.Proofs.Qxb6605765a
open Go.RowKit

section
variable {w w' : World} {B : Nat} {e : TypeId} {v : Value} {n : Nat} {xs : List Value}

theorem own_len (h : w.ownsRow B e 1 v n xs) : xs.length = n := by simpa using h.1

theorem own_form (h : w.ownsRow B e 1 v n xs) : ∃ a c, v = .slice a n c := by
  rcases h.2 with ⟨rfl, rfl⟩ | ⟨g, cap, cur, rfl, _⟩
  · exact ⟨_, _, rfl⟩
  · exact ⟨_, _, rfl⟩

theorem own_some (h : w.ownsRow B e 1 v n xs) (hn : 0 < n) : ∃ g c, v = .slice (some ⟨g, 0, none⟩) n c ∧ B ≤ g ∧ n ≤ maxLen ∧ ∀ i d, i < n → w.cell? ⟨g, i, none⟩ = some (xs.getD i d) := by
  have hl := own_len h
  rcases h.2 with ⟨rfl, rfl⟩ | ⟨g, cap, cur, rfl, hB, hg, hc, hm, hs, ht⟩
  · omega
  · refine ⟨g, cap, rfl, hB, by omega, fun i d hi => ?_⟩
    rw [World.ownsRow.cellAt (base := B) (e := e) (size := 1) (cap := cap) (n := n) (xs := xs) ⟨h.1, .inr ⟨g, cap, cur, rfl, hB, hg, hc, hm, hs, ht⟩⟩ i (by omega)]
    rw [List.getD_eq_getElem?_getD, List.getElem?_eq_getElem (by omega)]
    rfl

theorem own_split (h : w.ownsRow B e 1 v n xs) : (v = .slice none 0 0 ∧ n = 0 ∧ xs = []) ∨ ∃ g c, v = .slice (some ⟨g, 0, none⟩) n c ∧ ∀ j u, xs[j]? = some u → w.cell? ((⟨g, 0, none⟩ : Addr).add j) = some u := by
  have hl := own_len h
  rcases h.2 with ⟨rfl, rfl⟩ | ⟨g, cap, cur, rfl, r⟩
  · exact .inl ⟨rfl, rfl, List.eq_nil_of_length_eq_zero hl⟩
  · exact .inr ⟨g, cap, rfl, h.cells rfl⟩

theorem own_block (h : w.ownsRow B e 1 v n xs) {k : Nat} (hk : v.ownBlock = some k) : ∃ cur, w.heap[k]? = some (.cells cur e (0, 0)) := by
  rcases h.2 with ⟨rfl, rfl⟩ | ⟨g, cap, cur, rfl, hB, hg, hc, hm, hs, ht⟩
  · simp [Value.ownBlock] at hk
  · simp [Value.ownBlock] at hk
    subst hk
    exact ⟨cur, hg⟩

theorem own_later (h : w.ownsRow B e 1 v n xs) (hb : Below w.heap.size w w') : w'.ownsRow B e 1 v n xs := by
  refine ⟨h.1, ?_⟩
  rcases h.2 with h | ⟨g, cap, cur, rfl, hB, hg, r⟩
  · exact .inl h
  · exact .inr ⟨g, cap, cur, rfl, hB, by rw [hb.block g (Array.getElem?_eq_some_iff.1 hg).1]; exact hg, r⟩

theorem own_lower {B' : Nat} (h : w.ownsRow B e 1 v n xs) (hB' : B' ≤ B) : w.ownsRow B' e 1 v n xs := by
  refine ⟨h.1, ?_⟩
  rcases h.2 with h | ⟨g, cap, cur, rfl, hB, r⟩
  · exact .inl h
  · exact .inr ⟨g, cap, cur, rfl, by omega, r⟩

/-- A store into a row of another type turns no owned row. -/
theorem own_setCell (h : w.ownsRow B e 1 v n xs) {a : Addr} {cs : Array Value} {t : TypeId} {f : Nat × Nat} (ha : w.heap[a.block]? = some (.cells cs t f)) (ht : t ≠ e) (u : Value) : (w.setCell a u).ownsRow B e 1 v n xs := by
  refine ⟨h.1, ?_⟩
  rcases h.2 with h | ⟨g, cap, cur, rfl, hB, hg, r⟩
  · exact .inl h
  · have hne : g ≠ a.block := by
      intro he
      rw [← he, hg] at ha
      simp at ha
      exact ht ha.2.1.symm
    exact .inr ⟨g, cap, cur, rfl, hB, by rw [Below.heap_setCell _ _ _ _ hne]; exact hg, r⟩
end

/-- What one append to the joined error's slice, through its pointer, does. -/
theorem join_round {w wr w2 : World} {J m : Nat} {sv v' : Value} {xs : List Value} {t : TypeId} {x : Value} (hJ : wr.heap[J]? = some (.cells #[sv] 58)) (hH : w.heap.size ≤ J)
    (hown : wr.ownsRow w.heap.size 24 1 sv m xs) (hb : Below w.heap.size w wr) (hown' : w2.ownsRow w.heap.size 24 1 v' (m + 1) (xs ++ [.iface t x]))
    (hg : (wr.alloc (.cells #[.iface t x] 24)).grownBy w2 sv.ownBlock) :
    w2.heap[J]? = some (.cells #[sv] 58) ∧ (w2.setCell ⟨J, 0, none⟩ v').heap[J]? = some (.cells #[v'] 58) ∧ (w2.setCell ⟨J, 0, none⟩ v').ownsRow w.heap.size 24 1 v' (m + 1) (xs ++ [.iface t x]) ∧
      Below w.heap.size w (w2.setCell ⟨J, 0, none⟩ v') := by
  have hlt : J < wr.heap.size := (Array.getElem?_eq_some_iff.1 hJ).1
  have e1 : (wr.alloc (.cells #[.iface t x] 24)).heap[J]? = some (.cells #[sv] 58) := by rw [Below.heap_alloc _ _ _ hlt]; exact hJ
  have e2 : w2.heap[J]? = some (.cells #[sv] 58) := by
    rw [hg.block J (by simp; omega) (fun he => ?_)]
    · exact e1
    · obtain ⟨cur, hc⟩ := own_block hown he.symm
      rw [hJ] at hc
      simp at hc
  refine ⟨e2, ?_, own_setCell hown' e2 (by decide) v', ?_⟩
  · rw [heap_setCell_same w2 J 0 #[sv] 58 v' e2]
    rfl
  · exact (((hb.alloc hb.size _).grown hg (by have := hb.size; simp; omega) (fun k hk => (hown.lt k hk).1))).setCell hH v'

end Go.Proofs.Qxb6605765a
