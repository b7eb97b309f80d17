/-
  The walk of FnNumberPositionalSum.
-/
import Derived.Test.Qxb6605806aNumber
namespace Go.Proofs.Qxb6605806a
open Go.RowKit

theorem bytes9 (s : ByteArray) (w : World) (hs : s.size ≤ maxLen) :
    Calls Try.prog 9 #[.string s] w fun e w' => e = .returned (.bool (decide (s.size ≤ 1048576))) ∧ w' = w := by
  unfold maxLen at hs
  by_cases h : s.size ≤ 1048576
  · have e : decide (s.size ≤ 1048576) = true := by simpa using h
    rw [e]
    go_enter Try.func9, Try.ntmps9
    go_wp2
    go_ret
    exact ⟨rfl, rfl⟩
  · have e : decide (s.size ≤ 1048576) = false := by simpa using h
    rw [e]
    go_enter Try.func9, Try.ntmps9
    go_wp2
    go_ret
    exact ⟨rfl, rfl⟩

theorem sum_big (s : ByteArray) (w : World) (hs : s.size ≤ maxLen) (h : ¬ s.size ≤ 1048576) :
    Calls Try.prog 3 #[.string s] w fun e w' => e = .returned (.bool true) ∧ w' = w := by
  have H : Hid (Calls Try.prog 9 #[.string s] w fun e w' => e = .returned (.bool false) ∧ w' = w) := by
    have := bytes9 s w hs
    rw [show decide (s.size ≤ 1048576) = false from by simpa using h] at this
    exact this
  go_enter Try.func3, Try.ntmps3
  go_wp2_with (go_at_call 9; refine H.out.mono ?_; rintro e w1 ⟨rfl, hw1⟩; subst w1)
  go_ret
  exact ⟨rfl, rfl⟩

theorem drop_cons (s : ByteArray) (m : Nat) (h : m < s.size) : s.data.toList.drop m = s[m] :: s.data.toList.drop (m + 1) := by
  rw [List.drop_eq_getElem_cons (by simpa using h)]
  rfl

theorem pow_step (t : Nat) : wrap64 (wrap64 (10 ^ t) * 10) = wrap64 (10 ^ (t + 1)) := by
  rw [wrap_mul, Int.pow_succ]

set_option maxRecDepth 100000 in
theorem sum_good (s : ByteArray) (w : World) (hs : s.size ≤ maxLen) (h : s.size ≤ 1048576) (hd : AllDig s) :
    Calls Try.prog 3 #[.string s] w fun e w' => e = .returned (.bool true) ∧ w' = w := by
  have H : Hid (Calls Try.prog 9 #[.string s] w fun e w' => e = .returned (.bool true) ∧ w' = w) := by
    have := bytes9 s w hs
    rw [show decide (s.size ≤ 1048576) = true from by simpa using h] at this
    exact this
  have HG : Hid (Calls Try.prog 10 #[.string s] w fun e w' => e = .returned (.int .i64 (wrap64 (pos s.data.toList))) ∧ w' = w) := zznumber_good s w (by omega) hd
  have HD : Hid (AllDig s) := hd
  obtain ⟨got, hgot⟩ : ∃ got, got = wrap64 (pos s.data.toList) := ⟨_, rfl⟩
  rw [← hgot] at HG
  have HGOT : Hid (got = wrap64 (pos s.data.toList)) := hgot
  clear hd hgot hs
  go_enter Try.func3, Try.ntmps3
  go_wp2_with (first | (go_at_call 9; refine H.out.mono ?_; rintro e w1 ⟨rfl, hw1⟩; subst w1) | (go_at_call 10; refine HG.out.mono ?_; rintro e w1 ⟨rfl, hw1⟩; subst w1))
  go_loop [4, 5, 6] (fun v p i => ∃ m : Nat, m ≤ s.size ∧ i = .int .i64 ((m : Int) - 1) ∧ v = .int .i64 (wrap64 (pos (s.data.toList.drop m))) ∧ p = .int .i64 (wrap64 (10 ^ (s.size - m)))) (fun _ _ i => (intOf i + 1).toNat)
  case atStart =>
    refine ⟨s.size, Nat.le_refl _, rfl, ?_, ?_⟩
    · rw [List.drop_of_length_le (by simp), show pos [] = 0 from rfl, wrap_in 0 (by omega) (by omega)]
    · rw [Nat.sub_self, Int.pow_zero, wrap_in 1 (by omega) (by omega)]
  case round =>
    obtain ⟨m, hm, rfl, rfl, rfl⟩ := hrel
    cases m with
    | zero =>
      have e : wrap64 (pos (s.data.toList.drop 0)) = got := by rw [HGOT.out, List.drop_zero]
      rw [e]
      clear e
      generalize wrap64 (10 ^ (s.size - 0)) = pp at *
      go_wp2_with fail
      go_ret
      exact ⟨by simp, rfl⟩
    | succ m =>
      have hlt : m < s.size := by omega
      have hdk := HD.out m hlt
      have d0 : (48 : Int) ≤ (s[m].toNat : Int) := by have := hdk.1; omega
      have d1 : (s[m].toNat : Int) ≤ 57 := by have := hdk.2; omega
      have hlen : s.size - (m + 1) = (s.data.toList.drop (m + 1)).length := by simp
      have HST : Hid (wrap64 (wrap64 (pos (s.data.toList.drop (m + 1))) + wrap64 (((s[m].toNat : Int) - 48) * wrap64 (10 ^ (s.size - (m + 1))))) = wrap64 (pos (s.data.toList.drop m))) := by
        rw [drop_cons s m hlt, hlen]
        exact sum_step _ _
      have HPW : Hid (wrap64 (wrap64 (10 ^ (s.size - (m + 1))) * 10) = wrap64 (10 ^ (s.size - m))) := by
        rw [show s.size - m = (s.size - (m + 1)) + 1 by omega]
        exact pow_step _
      clear hdk hlen
      generalize wrap64 (pos (s.data.toList.drop (m + 1))) = x at *
      generalize wrap64 (10 ^ (s.size - (m + 1))) = y at *
      rw [show ((m + 1 : Nat) : Int) - 1 = (m : Int) by omega]
      go_wp2_with fail
      go_round
      case rel => exact ⟨m, by omega, rfl, by rw [HST.out], by rw [HPW.out]⟩
      case measure => simp [intOf]

set_option maxRecDepth 100000 in
theorem sum_bad (s : ByteArray) (w : World) (hs : s.size ≤ maxLen) (h : s.size ≤ 1048576) (hd : ¬ AllDig s) :
    Calls Try.prog 3 #[.string s] w fun e w' => e = .returned (.bool true) ∧ w' = w := by
  have H : Hid (Calls Try.prog 9 #[.string s] w fun e w' => e = .returned (.bool true) ∧ w' = w) := by
    have := bytes9 s w hs
    rw [show decide (s.size ≤ 1048576) = true from by simpa using h] at this
    exact this
  have HG : Hid (Calls Try.prog 10 #[.string s] w fun e w' => e = .returned (.int .i64 (-1)) ∧ w' = w) := zznumber_bad s w (by omega) hd
  have HD : Hid (¬ AllDig s) := hd
  clear hd hs
  go_enter Try.func3, Try.ntmps3
  go_wp2_with (first | (go_at_call 9; refine H.out.mono ?_; rintro e w1 ⟨rfl, hw1⟩; subst w1) | (go_at_call 10; refine HG.out.mono ?_; rintro e w1 ⟨rfl, hw1⟩; subst w1))
  go_loop [4, 5, 6] (fun v p i => ∃ (m : Nat) (x y : Int), m ≤ s.size ∧ i = .int .i64 ((m : Int) - 1) ∧ v = .int .i64 x ∧ p = .int .i64 y ∧ Hid (∀ i (h : i < s.size), m ≤ i → Dig s[i])) (fun _ _ i => (intOf i + 1).toNat)
  case atStart => exact ⟨s.size, _, _, Nat.le_refl _, rfl, rfl, rfl, fun i hi hm => by omega⟩
  case round =>
    obtain ⟨m, x, y, hm, rfl, rfl, rfl, hdg⟩ := hrel
    cases m with
    | zero => exact absurd (fun i h => hdg.out i h (Nat.zero_le _)) HD.out
    | succ m =>
      have hlt : m < s.size := by omega
      rw [show ((m + 1 : Nat) : Int) - 1 = (m : Int) by omega]
      by_cases hdk : Dig s[m]
      · have HN : Hid (∀ i (h : i < s.size), m ≤ i → Dig s[i]) := by
          intro i h hi
          by_cases e : i = m
          · subst e
            exact hdk
          · exact hdg.out i h (by omega)
        have d0 : (48 : Int) ≤ (s[m].toNat : Int) := by have := hdk.1; omega
        have d1 : (s[m].toNat : Int) ≤ 57 := by have := hdk.2; omega
        clear hdk hdg
        go_wp2_with fail
        go_round
        case rel => exact ⟨m, _, _, by omega, rfl, rfl, rfl, HN⟩
        case measure => simp [intOf]
      · by_cases h48 : (s[m].toNat : Int) < 48
        · clear hdk hdg
          go_wp2_with fail
          go_ret
          exact ⟨rfl, rfl⟩
        · have h57 : (57 : Int) < (s[m].toNat : Int) := by
            unfold Dig at hdk
            omega
          clear hdk hdg
          go_wp2_with fail
          go_ret
          exact ⟨rfl, rfl⟩
end Go.Proofs.Qxb6605806a
