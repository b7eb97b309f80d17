/-
  Slices that came in, opened: what the walks are told of them.
-/
import Derived.Test.Qxb6605765aClone
import Derived.ProofKit
import Derived.Deep.Slices
namespace Go.Proofs.Qxb6605765a
open Go.ChangeShapes Go.WideShapes Go.ChangeAt Go.RowKit

theorem addr_add (b off i : Nat) : (⟨b, off, none⟩ : Addr).add i = ⟨b, off + i, none⟩ := by
  unfold Addr.add
  split <;> simp_all

/-- A slice whose elements are one cell each. -/
theorem row_any {H : Type} {enc : TypeId × Value → H} {W : World} {t e : TypeId} {a : Option Addr} {len cap fuel : Nat} {x : DataW H × List MemPlace} (ht : Try.prog.underlying t = some (.slice e)) (hc : Try.prog.cellsOf e = 1)
    (h : DataW.trod enc Try.prog W 0 (fun _ => true) true fuel t [.slice a len cap] = some x) :
    ∃ xs, IsRow W a len xs ∧ len ≤ maxLen ∧ ∀ i, i < len → ∃ n y, DataW.trod enc Try.prog W 0 (fun _ => true) true n e [xs.getD i .nilIface] = some y := by
  rcases Deep.open_slice1 ht hc h with ⟨hcs, _⟩ | ⟨x, l, c, m, n, V, D, Pl, hcs, _, hl, hm, hmm, _, hx⟩
  · simp at hcs
    obtain ⟨rfl, rfl, rfl⟩ := hcs
    exact ⟨[], ⟨rfl, fun h => by omega⟩, by omega, fun i hi => by omega⟩
  · simp at hcs
    obtain ⟨rfl, rfl, rfl⟩ := hcs
    simp at hmm
    subst hmm
    have hg : ∀ i, i < len → ((List.range len).map V).getD i .nilIface = V i := by
      intro i hi
      simp [List.getD_eq_getElem?_getD, hi]
    refine ⟨(List.range len).map V, ⟨by simp, fun hp => ?_⟩, by omega, fun i hi => ⟨n, _, by rw [hg i hi]; exact (hx i (by omega)).2⟩⟩
    obtain ⟨b, off, spot⟩ := x
    have hc := (hx 0 (by omega)).1
    have hspot : spot = none := by simpa [Addr.add] using World.cell?_spot hc
    subst hspot
    refine ⟨b, off, rfl, fun i hi => ?_⟩
    rw [hg i hi]
    have := (hx i (by omega)).1
    rw [addr_add] at this
    exact this

theorem row_strings {H : Type} {enc : TypeId × Value → H} {W : World} {a : Option Addr} {len cap fuel : Nat} {x : DataW H × List MemPlace} (h : DataW.trod enc Try.prog W 0 (fun _ => true) true fuel 31 [.slice a len cap] = some x) :
    ∃ xs, IsRow W a len xs ∧ (∀ i, i < len → ∃ s, xs.getD i .nilIface = .string s) ∧ len ≤ maxLen := by
  obtain ⟨xs, h1, h2, h3⟩ := row_any Try.underlying31 (by kernel_rfl) h
  refine ⟨xs, h1, fun i hi => ?_, h2⟩
  obtain ⟨n, y, hy⟩ := h3 i hi
  obtain ⟨s, e1, _⟩ := DataW.trod_string Try.underlying9 hy
  exact ⟨s, by simpa using e1⟩

theorem row_bools {H : Type} {enc : TypeId × Value → H} {W : World} {a : Option Addr} {len cap fuel : Nat} {x : DataW H × List MemPlace} (h : DataW.trod enc Try.prog W 0 (fun _ => true) true fuel 35 [.slice a len cap] = some x) :
    ∃ xs, IsRow W a len xs ∧ (∀ i, i < len → ∃ s, xs.getD i .nilIface = .bool s) ∧ len ≤ maxLen := by
  obtain ⟨xs, h1, h2, h3⟩ := row_any Try.underlying35 (by kernel_rfl) h
  refine ⟨xs, h1, fun i hi => ?_, h2⟩
  obtain ⟨n, y, hy⟩ := h3 i hi
  obtain ⟨s, e1, _⟩ := DataW.trod_bool Try.underlying4 hy
  exact ⟨s, by simpa using e1⟩

/-- A slice of slices of strings: each element is a slice value, told by a row of its own. -/
theorem row_groups {H : Type} {enc : TypeId × Value → H} {W : World} {a : Option Addr} {len cap fuel : Nat} {x : DataW H × List MemPlace} (h : DataW.trod enc Try.prog W 0 (fun _ => true) true fuel 40 [.slice a len cap] = some x) :
    ∃ xs, IsRow W a len xs ∧ len ≤ maxLen ∧ ∀ i, i < len → ∃ a' l c ys, xs.getD i .nilIface = .slice a' l c ∧ IsRow W a' l ys ∧ (∀ i, i < l → ∃ s, ys.getD i .nilIface = .string s) ∧ l ≤ maxLen := by
  obtain ⟨xs, h1, h2, h3⟩ := row_any Try.underlying40 (by kernel_rfl) h
  refine ⟨xs, h1, h2, fun i hi => ?_⟩
  obtain ⟨n, y, hy⟩ := h3 i hi
  have hform : ∃ a' l c, xs.getD i .nilIface = .slice a' l c := by
    rcases Deep.open_slice Try.underlying31 hy with ⟨hcs, _⟩ | ⟨x, l, c, m, n, D, Pl, hcs, _⟩
    · exact ⟨none, 0, 0, by simpa using hcs⟩
    · exact ⟨some x, l, c, by simpa using hcs⟩
  obtain ⟨a', l, c, e⟩ := hform
  rw [e] at hy
  obtain ⟨ys, g1, g2, g3⟩ := row_strings hy
  exact ⟨a', l, c, ys, e, g1, g2, g3⟩
end Go.Proofs.Qxb6605765a
