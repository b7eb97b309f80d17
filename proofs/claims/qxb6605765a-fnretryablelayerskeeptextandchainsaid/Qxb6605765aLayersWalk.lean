import Derived.Test.Qxb6605765aMarks
namespace Go.Proofs.Qxb6605765a
open Go.RowKit

theorem bytes7 (s : ByteArray) (n : Int) (w : World) (hs : s.size ≤ maxLen) :
    Calls Try.prog 7 #[.string s, .int .i64 n] w fun e w' => e = .returned (.bool (decide (s.size ≤ 1048576))) ∧ w' = w := by
  unfold maxLen at hs
  by_cases h : s.size ≤ 1048576
  · have e : decide (s.size ≤ 1048576) = true := by simpa using h
    rw [e]
    go_enter Try.func7, Try.ntmps7
    go_wp2
    go_ret
    exact ⟨rfl, rfl⟩
  · have e : decide (s.size ≤ 1048576) = false := by simpa using h
    rw [e]
    go_enter Try.func7, Try.ntmps7
    go_wp2
    go_ret
    exact ⟨rfl, rfl⟩

theorem layers_big (s : ByteArray) (n : Int) (w : World) (hs : s.size ≤ maxLen) (h : ¬ s.size ≤ 1048576) :
    Calls Try.prog 3 #[.string s, .int .i64 n] w fun e w' => e = .returned (.bool true) ∧ w' = w := by
  have H : Hid (Calls Try.prog 7 #[.string s, .int .i64 n] w fun e w' => e = .returned (.bool false) ∧ w' = w) := by
    have := bytes7 s n w hs
    rw [show decide (s.size ≤ 1048576) = false from by simpa using h] at this
    exact this
  go_enter Try.func3, Try.ntmps3
  go_wp2_with (go_at_call 7; refine H.out.mono ?_; rintro e w' ⟨rfl, rfl⟩)
  go_ret
  exact ⟨rfl, rfl⟩

theorem layers_out (s : ByteArray) (n : Int) (w : World) (hs : s.size ≤ maxLen) (h : s.size ≤ 1048576) (hn : n < 1 ∨ 1024 < n) :
    Calls Try.prog 3 #[.string s, .int .i64 n] w fun e w' => e = .returned (.bool true) ∧ w' = w := by
  have H : Hid (Calls Try.prog 7 #[.string s, .int .i64 n] w fun e w' => e = .returned (.bool true) ∧ w' = w) := by
    have := bytes7 s n w hs
    rw [show decide (s.size ≤ 1048576) = true from by simpa using h] at this
    exact this
  rcases hn with hn | hn
  · go_enter Try.func3, Try.ntmps3
    go_wp2_with (go_at_call 7; refine H.out.mono ?_; rintro e w' ⟨rfl, rfl⟩)
    go_ret
    exact ⟨rfl, rfl⟩
  · have hn1 : ¬ n < 1 := by omega
    go_enter Try.func3, Try.ntmps3
    go_wp2_with (go_at_call 7; refine H.out.mono ?_; rintro e w' ⟨rfl, rfl⟩)
    go_ret
    exact ⟨rfl, rfl⟩

set_option maxRecDepth 100000 in
set_option maxHeartbeats 400000 in
theorem layers_in (s : ByteArray) (n : Nat) (w : World) (hs : s.size ≤ maxLen) (h : s.size ≤ 1048576) (h1 : 1 ≤ n) (h2 : n ≤ 1024) :
    Calls Try.prog 3 #[.string s, .int .i64 n] w fun e w' => e = .returned (.bool true) ∧ Below w.heap.size w w' := by
  have H : Hid (Calls Try.prog 7 #[.string s, .int .i64 n] w fun e w' => e = .returned (.bool true) ∧ w' = w) := by
    have := bytes7 s n w hs
    rw [show decide (s.size ≤ 1048576) = true from by simpa using h] at this
    exact this
  have g1 : ¬ (n : Int) < 1 := by omega
  have g2 : ¬ (1024 : Int) < n := by omega
  go_enter Try.func3, Try.ntmps3
  go_wp2_with (first | (go_at_call 7; refine H.out.mono ?_; rintro e w1 ⟨rfl, hw1⟩; subst w1) | (go_at_call 8; refine (retryable_nil _).mono ?_; rintro e w1 ⟨rfl, hw1⟩; subst w1) | (go_at_call 9; refine (zznew_any _ _).mono ?_; rintro e w1 ⟨rfl, hw1⟩; subst w1))
  go_loopw [6, 7] (fun e i wr => ∃ k : Nat, k ≤ n ∧ i = .int .i64 k ∧ Marks wr (.iface 52 (.pointer (some ⟨w.heap.size, 0, none⟩))) k e ∧ wr.cell? ⟨w.heap.size, 0, none⟩ = some (.string s) ∧ Below w.heap.size w wr ∧ w.heap.size < wr.heap.size)
    (fun _ i _ => n - (intOf i).toNat)
  case atStart => exact ⟨0, Nat.zero_le _, rfl, rfl, by simp, (Below.refl _ _).alloc (Nat.le_refl _) _, by simp⟩
  case round =>
    obtain ⟨k, hk, rfl, hm, hc, hb, hz⟩ := hrel
    by_cases hlt : k < n
    · obtain ⟨t, x, rfl⟩ := hm.iface ⟨_, _, rfl⟩
      go_wp2_with (go_at_call 8; refine (retryable_some _ _ _).mono ?_; rintro e w1 ⟨rfl, hw1⟩; subst w1)
      go_roundw
      case rel => exact ⟨k + 1, by omega, by go_num, hm.mark, cell_alloc _ hc, hb.alloc (by omega) _, by simp; omega⟩
      case measure => simp [intOf]; omega
    · obtain ⟨kk, rfl⟩ : ∃ kk, n = kk + 1 := ⟨n - 1, by omega⟩
      obtain rfl : k = kk + 1 := by omega
      obtain ⟨b, o, u, rfl, hcu, hmu⟩ := hm
      have hM : Marks wr (.iface 52 (.pointer (some ⟨w.heap.size, 0, none⟩))) (kk + 1) (.iface 43 (.pointer (some ⟨b, o, none⟩))) := ⟨b, o, u, rfl, hcu, hmu⟩
      clear hcu hmu
      go_wp2_with (first | (go_at_call 10; refine (parts43 _ _).mono ?_; rintro e w1 ⟨rfl, hw1⟩; subst w1) | (go_at_call 11; refine (same43 _ _).mono ?_; rintro e w1 ⟨rfl, hw1⟩; subst w1))
      have hM2 := hM.later ((Below.refl _ _).alloc (Nat.le_refl _) (.cells #[.iface 43 (.pointer (some ⟨b, o, none⟩))] 24))
      have hc2 := cell_alloc (.cells #[.iface 43 (.pointer (some ⟨b, o, none⟩))] 24) hc
      have hb2 := hb.alloc (Nat.le_of_lt hz) (.cells #[.iface 43 (.pointer (some ⟨b, o, none⟩))] 24)
      clear hM hc hb
      generalize wr.alloc (.cells #[.iface 43 (.pointer (some ⟨b, o, none⟩))] 24) = W at *
      go_loop [9, 10] (fun c i => ∃ j : Nat, j ≤ kk + 1 ∧ i = .int .i64 j ∧ Marks W (.iface 52 (.pointer (some ⟨w.heap.size, 0, none⟩))) (kk + 1 - j) c) (fun _ i => kk + 1 - (intOf i).toNat)
      case atStart => exact ⟨0, Nat.zero_le _, rfl, hM2⟩
      case round =>
        obtain ⟨j, hj, rfl, hm⟩ := hrel
        clear hM2
        by_cases hlt2 : j < kk + 1
        · obtain ⟨m, hmm⟩ : ∃ m, kk + 1 - j = m + 1 := ⟨kk - j, by omega⟩
          rw [hmm] at hm
          have hT : Hid (Lay W s (m + 1) _) := hm.lay ⟨_, _, rfl, hc2⟩
          obtain ⟨b1, o1, u1, rfl, hcu, hmu⟩ := hm
          have hu := hmu.iface ⟨_, _, rfl⟩
          have hmm2 : Hid (kk + 1 - (j + 1) = m) := show kk + 1 - (j + 1) = m by omega
          clear hmm
          go_wp2_with (first | (go_at_call 12; refine (zztext _ _ _ _ hT.out).mono ?_; rintro e w1 ⟨rfl, hw1⟩; subst w1) | (go_at_call 13; refine (zzunwrap43 _ _ _ _ hcu (.inr hu)).mono ?_; rintro e w1 ⟨rfl, hw1⟩; subst w1))
          go_round
          case rel => exact ⟨j + 1, by omega, by go_num, by rw [hmm2.out]; exact hmu⟩
          case measure => simp [intOf]; omega
        · have e0 : kk + 1 - j = 0 := by omega
          rw [e0] at hm
          have hm' : _ = _ := hm
          subst hm'
          clear hm e0
          go_wp2_with (first | (go_at_call 11; refine (same52 _ _).mono ?_; rintro e w1 ⟨rfl, hw1⟩; subst w1) | (go_at_call 13; refine (zzunwrap52 _ _).mono ?_; rintro e w1 ⟨rfl, hw1⟩; subst w1))
          go_ret
          exact ⟨rfl, hb2⟩
end Go.Proofs.Qxb6605765a
