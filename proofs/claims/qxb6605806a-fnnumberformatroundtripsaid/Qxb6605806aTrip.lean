/-
  FnNumberFormatRoundTrip: the plain part, and its walk.
-/
import Derived.Test.Qxb6605806aUtoa
import Derived.OwnWalk
import Derived.Deep.RegionWith
namespace Go.Proofs.Qxb6605806a
open Go.RowKit

theorem pos_zeros (z : Nat) (ds : List UInt8) : pos (List.replicate z 48 ++ ds) = pos ds := by
  induction z with
  | zero => rfl
  | succ z ih => simp [List.replicate_succ, pos, ih]

theorem allDig_iff (s : ByteArray) : AllDig s ↔ DigL s.data.toList := by
  constructor
  · intro h c hc
    obtain ⟨i, hi, rfl⟩ := List.getElem_of_mem hc
    exact h i (by simpa using hi)
  · intro h i hi
    exact h (s.data[i]'hi) (by simp)

theorem append_toList (a b : ByteArray) : (a ++ b).data.toList = a.data.toList ++ b.data.toList := by
  simp [ByteArray.data_append]

/-- The string that the law makes, and its two neighbours. -/
structure Made (A B : ByteArray) (n : Nat) : Prop where
  good : AllDig (A ++ B)
  val : pos (A ++ B).data.toList = (n : Int)
  plus : ¬ AllDig (({ data := #[43] } : ByteArray) ++ (A ++ B))
  blank : ¬ AllDig ((A ++ B) ++ ({ data := #[32] } : ByteArray))
  size : (A ++ B).size ≤ 4120

theorem made (A B : ByteArray) (z n : Nat) (hz : z ≤ 4096) (hA : A.data.toList = List.replicate z 48) (hB : DigL B.data.toList) (hn : pos B.data.toList = (n : Int)) (hl : B.data.toList.length ≤ 24) : Made A B n where
  good := by
    rw [allDig_iff, append_toList, hA]
    intro c hc
    rcases List.mem_append.1 hc with h | h
    · rw [(List.mem_replicate.1 h).2]
      exact ⟨by decide, by decide⟩
    · exact hB c h
  val := by rw [append_toList, hA, pos_zeros, hn]
  plus := by
    rw [allDig_iff, append_toList]
    intro h
    have := (h 43 (by simp)).1
    simp at this
  blank := by
    rw [allDig_iff, append_toList]
    intro h
    have := (h 32 (by simp)).1
    simp at this
  size := by
    have h1 : (A ++ B).size = A.data.toList.length + B.data.toList.length := by rw [← List.length_append, ← append_toList, Array.length_toList]; rfl
    rw [h1, hA, List.length_replicate]
    omega
end Go.Proofs.Qxb6605806a
