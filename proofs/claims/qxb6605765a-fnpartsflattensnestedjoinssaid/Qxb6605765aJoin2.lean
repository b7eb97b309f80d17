/-
  ZZJoin2, ZZJoinAll, by their contracts.
-/
import Derived.Test.Qxb6605765aParts
namespace Go.Proofs.Qxb6605765a
open Go.RowKit

theorem pair_cells (w : World) (a b : Value) : ∀ i, i < 2 → (w.alloc (.cells #[a, b] 24)).cell? ⟨w.heap.size, 0 + i, none⟩ = some ([a, b].getD i .nilIface) := by
  intro i hi
  rcases Nat.lt_or_ge i 1 with h | h
  · obtain rfl : i = 0 := by omega
    simp
  · obtain rfl : i = 1 := by omega
    simp

theorem zzjoin2_none (w : World) : Calls Try.prog 16 #[.nilIface, .nilIface] w fun e w' => e = .returned .nilIface ∧ Below w.heap.size w w' := by
  have H : Hid (Calls Try.prog 25 #[.slice (some ⟨w.heap.size, 0, none⟩) 2 2] (w.alloc (.cells #[.nilIface, .nilIface] 24)) fun e w' => e = .returned .nilIface ∧ w' = w.alloc (.cells #[.nilIface, .nilIface] 24)) :=
    join_none w.heap.size 0 2 2 [.nilIface, .nilIface] _ rfl (by unfold maxLen; omega) (by intro v hv; simp at hv; exact .inl hv) (pair_cells w _ _) rfl
  go_enter Try.func16, Try.ntmps16
  go_wp2_with (go_at_call 25; refine H.out.mono ?_; rintro e w1 ⟨rfl, hw1⟩; subst w1)
  go_ret
  exact ⟨rfl, (Below.refl _ _).alloc (Nat.le_refl _) _⟩

theorem zzjoin2_some (a b : Value) (w : World) (ha : IsErr a) (hb : IsErr b) (h0 : live [a, b] ≠ []) :
    Calls Try.prog 16 #[a, b] w fun e w' => ∃ v, e = .returned v ∧ IsJoin w' v (live [a, b]) ∧ Below w.heap.size w w' := by
  have H : Hid (Calls Try.prog 25 #[.slice (some ⟨w.heap.size, 0, none⟩) 2 2] (w.alloc (.cells #[a, b] 24)) fun e w' => ∃ v, e = .returned v ∧ IsJoin w' v (live [a, b]) ∧ Below (w.alloc (.cells #[a, b] 24)).heap.size (w.alloc (.cells #[a, b] 24)) w') :=
    join_some w.heap.size 0 2 2 [a, b] _ rfl (by omega) (by intro v hv; simp at hv; rcases hv with rfl | rfl; exact ha; exact hb) (pair_cells w _ _) h0
  have hbel : Below w.heap.size w (w.alloc (.cells #[a, b] 24)) := (Below.refl _ _).alloc (Nat.le_refl _) _
  clear h0
  generalize live [a, b] = L at *
  rcases ha with rfl | ⟨t, x, rfl⟩ <;> rcases hb with rfl | ⟨t', x', rfl⟩
  all_goals
    go_enter Try.func16, Try.ntmps16
    go_wp2_with fail
    refine H.out.mono ?_
    rintro e w1 ⟨v, rfl, hj, hb1⟩
    have hj' : Hid (IsJoin w1 v L) := hj
    clear hj
    have hv : ∃ a, v = .iface 56 (.pointer a) := by
      obtain ⟨b, g, c, rfl, _⟩ := hj'.out
      exact ⟨_, rfl⟩
    obtain ⟨pa, rfl⟩ := hv
    go_wp2
    go_ret
    exact ⟨_, rfl, hj'.out, hbel.trans (hb1.mono (by simp))⟩

theorem zzjoinall_none (b o n c : Nat) (vs : List Value) (w : World) (hn : vs.length = n) (hm : n ≤ maxLen) (hv : ∀ v ∈ vs, IsErr v)
    (hc : ∀ i, i < n → w.cell? ⟨b, o + i, none⟩ = some (vs.getD i .nilIface)) (h0 : live vs = []) :
    Calls Try.prog 20 #[.slice (some ⟨b, o, none⟩) n c] w fun e w' => e = .returned .nilIface ∧ w' = w := by
  have H : Hid (Calls Try.prog 25 #[.slice (some ⟨b, o, none⟩) n c] w fun e w' => e = .returned .nilIface ∧ w' = w) := join_none b o n c vs w hn hm hv hc h0
  clear hn hm hv hc h0
  go_enter Try.func20, Try.ntmps20
  go_wp2_with (go_at_call 25; refine H.out.mono ?_; rintro e w1 ⟨rfl, hw1⟩; subst w1)
  go_ret
  exact ⟨rfl, rfl⟩

theorem zzjoinall_some (b o n c : Nat) (vs : List Value) (w : World) (hn : vs.length = n) (hm : n ≤ 4194304) (hv : ∀ v ∈ vs, IsErr v)
    (hc : ∀ i, i < n → w.cell? ⟨b, o + i, none⟩ = some (vs.getD i .nilIface)) (h0 : live vs ≠ []) :
    Calls Try.prog 20 #[.slice (some ⟨b, o, none⟩) n c] w fun e w' => ∃ v, e = .returned v ∧ IsJoin w' v (live vs) ∧ Below w.heap.size w w' := by
  have H : Hid (Calls Try.prog 25 #[.slice (some ⟨b, o, none⟩) n c] w fun e w' => ∃ v, e = .returned v ∧ IsJoin w' v (live vs) ∧ Below w.heap.size w w') := join_some b o n c vs w hn hm hv hc h0
  clear hn hm hv hc h0
  generalize live vs = L at *
  go_enter Try.func20, Try.ntmps20
  go_wp2_with fail
  refine H.out.mono ?_
  rintro e w1 ⟨v, rfl, hj, hb1⟩
  have hj' : Hid (IsJoin w1 v L) := hj
  clear hj
  have hv : ∃ a, v = .iface 56 (.pointer a) := by
    obtain ⟨b, g, c, rfl, _⟩ := hj'.out
    exact ⟨_, rfl⟩
  obtain ⟨pa, rfl⟩ := hv
  go_wp2
  go_ret
  exact ⟨_, rfl, hj'.out, hb1⟩
end Go.Proofs.Qxb6605765a
