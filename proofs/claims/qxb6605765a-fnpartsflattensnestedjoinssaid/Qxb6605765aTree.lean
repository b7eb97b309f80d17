/-
  Joined errors in memory, and what Parts makes of an error: plain definitions over worlds, no walk.
-/
import Derived.Test.Qxb6605765aMarks
namespace Go.Proofs.Qxb6605765a
open Go.RowKit

/-- An interface value of type error: nil, or a type and a value. -/
def IsErr (v : Value) : Prop := v = .nilIface ∨ ∃ t x, v = .iface t x

def some? : Value → Bool
  | .nilIface => false
  | _ => true

/-- The errors of a list that are not nil. -/
def live (vs : List Value) : List Value := vs.filter some?

theorem live_take_nil (vs : List Value) (k : Nat) (h : k < vs.length) (hv : vs.getD k .nilIface = .nilIface) : live (vs.take (k + 1)) = live (vs.take k) := by
  have e : vs[k] = .nilIface := by simpa [List.getD_eq_getElem?_getD, List.getElem?_eq_getElem h] using hv
  rw [live, live, List.take_succ_eq_append_getElem h, List.filter_append, e]
  simp [some?]

theorem live_take_some (vs : List Value) (k : Nat) (h : k < vs.length) {t : TypeId} {x : Value} (hv : vs.getD k .nilIface = .iface t x) : live (vs.take (k + 1)) = live (vs.take k) ++ [.iface t x] := by
  have e : vs[k] = .iface t x := by simpa [List.getD_eq_getElem?_getD, List.getElem?_eq_getElem h] using hv
  rw [live, live, List.take_succ_eq_append_getElem h, List.filter_append, e]
  simp [some?]

theorem live_take_le (vs : List Value) (k : Nat) : (live (vs.take k)).length ≤ k :=
  Nat.le_trans (List.length_filter_le _ _) (List.length_take_le _ _)

theorem live_iface {vs : List Value} (h : ∀ v ∈ vs, IsErr v) : ∀ v ∈ live vs, ∃ t x, v = .iface t x := by
  intro v hv
  rw [live, List.mem_filter] at hv
  rcases h v hv.1 with rfl | h
  · simp [some?] at hv
  · exact h

/-- v is a joined error: it points to a cell that holds a slice of the errors vs. -/
def IsJoin (w : World) (v : Value) (vs : List Value) : Prop :=
  ∃ b g c, v = .iface 56 (.pointer (some ⟨b, 0, none⟩)) ∧ w.cell? ⟨b, 0, none⟩ = some (.slice (some ⟨g, 0, none⟩) vs.length c) ∧ vs.length ≤ maxLen ∧
    ∀ i, i < vs.length → w.cell? ⟨g, i, none⟩ = some (vs.getD i .nilIface)

theorem IsJoin.later {w w' : World} (hb : Below w.heap.size w w') {v : Value} {vs : List Value} (h : IsJoin w v vs) : IsJoin w' v vs := by
  obtain ⟨b, g, c, rfl, h1, h2, h3⟩ := h
  exact ⟨b, g, c, rfl, cell_later hb h1, h2, fun i hi => cell_later hb (h3 i hi)⟩

/-- What Parts gives for v, told to the depth d. -/
def PartsOf : Nat → World → Value → List Value → Prop
  | 0, _, v, ps => (v = .nilIface ∧ ps = []) ∨ (∃ x, v = .iface 43 x ∧ ps = [v]) ∨ (∃ x, v = .iface 52 x ∧ ps = [v])
  | d + 1, w, v, ps => PartsOf d w v ps ∨ ∃ (vs : List Value) (pss : List (List Value)), IsJoin w v vs ∧ pss.length = vs.length ∧ (∀ i, i < vs.length → PartsOf d w (vs.getD i .nilIface) (pss.getD i [])) ∧ ps = pss.flatten ∧ ps ≠ []

theorem PartsOf.later {w w' : World} (hb : Below w.heap.size w w') : ∀ {d : Nat} {v : Value} {ps : List Value}, PartsOf d w v ps → PartsOf d w' v ps := by
  intro d
  induction d with
  | zero => intro v ps h; exact h
  | succ d ih =>
    rintro v ps (h | ⟨vs, pss, hj, hl, hp, he, hn⟩)
    · exact .inl (ih h)
    · exact .inr ⟨vs, pss, hj.later hb, hl, fun i hi => ih (hp i hi), he, hn⟩

theorem PartsOf.up {w : World} {d e : Nat} (h : d ≤ e) {v : Value} {ps : List Value} (hp : PartsOf d w v ps) : PartsOf e w v ps := by
  induction e with
  | zero => obtain rfl : d = 0 := by omega
            exact hp
  | succ e ih =>
    by_cases hd : d = e + 1
    · rw [← hd]; exact hp
    · exact .inl (ih (by omega))

theorem PartsOf.iface {w : World} : ∀ {d : Nat} {v : Value} {ps : List Value}, PartsOf d w v ps → ∀ p ∈ ps, ∃ t x, p = .iface t x := by
  intro d
  induction d with
  | zero =>
    rintro v ps (⟨_, rfl⟩ | ⟨x, rfl, rfl⟩ | ⟨x, rfl, rfl⟩) p hp
    · simp at hp
    · exact ⟨43, x, by simpa using hp⟩
    · exact ⟨52, x, by simpa using hp⟩
  | succ d ih =>
    rintro v ps (h | ⟨vs, pss, hj, hl, hq, rfl, hn⟩) p hp
    · exact ih h p hp
    · obtain ⟨l, hl1, hl2⟩ := List.mem_flatten.1 hp
      obtain ⟨i, hi, rfl⟩ := List.getElem_of_mem hl1
      exact ih (hq i (by omega)) p (by simpa [List.getD_eq_getElem?_getD, List.getElem?_eq_getElem hi] using hl2)

theorem PartsOf.isErr {w : World} : ∀ {d : Nat} {v : Value} {ps : List Value}, PartsOf d w v ps → IsErr v := by
  intro d
  induction d with
  | zero =>
    rintro v ps (⟨rfl, _⟩ | ⟨x, rfl, _⟩ | ⟨x, rfl, _⟩)
    · exact .inl rfl
    · exact .inr ⟨_, _, rfl⟩
    · exact .inr ⟨_, _, rfl⟩
  | succ d ih =>
    rintro v ps (h | ⟨vs, pss, ⟨b, g, c, rfl, _⟩, _⟩)
    · exact ih h
    · exact .inr ⟨_, _, rfl⟩

theorem oneCell_iface (t : TypeId) (x : Value) : (Value.iface t x).oneCell' = true := rfl
end Go.Proofs.Qxb6605765a
