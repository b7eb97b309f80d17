/-
  isDigit, number, ZZnumber, by their contracts.
-/
import Derived.Test.Qxb6605806aRows
import Derived.Test.Qxb6605806aNum
import Derived.WalkSpells
import Derived.WalkLawsBesides
namespace Go.Proofs.Qxb6605806a
open Go.RowKit

theorem isDigit_yes (c : Int) (w : World) (h0 : 48 ≤ c) (h1 : c ≤ 57) :
    Calls Try.prog 25 #[.int .u8 c] w fun e w' => e = .returned (.bool true) ∧ w' = w := by
  go_enter Try.func25, Try.ntmps25
  go_wp2
  go_ret
  exact ⟨rfl, rfl⟩

theorem isDigit_no (c : Int) (w : World) (h : c < 48 ∨ 57 < c) :
    Calls Try.prog 25 #[.int .u8 c] w fun e w' => e = .returned (.bool false) ∧ w' = w := by
  by_cases h48 : c < 48
  · go_enter Try.func25, Try.ntmps25
    go_wp2
    go_ret
    exact ⟨rfl, rfl⟩
  · have h57 : 57 < c := by omega
    have hd : decide (c ≤ 57) = false := by simp; omega
    clear h
    go_enter Try.func25, Try.ntmps25
    go_wp2
    go_ret
    exact ⟨rfl, rfl⟩

theorem take_snoc (s : ByteArray) (k : Nat) (h : k < s.size) : s.data.toList.take (k + 1) = s.data.toList.take k ++ [s[k]] := by
  rw [List.take_succ_eq_append_getElem (by simpa using h)]
  rfl

/-- Every byte is a digit. -/
def AllDig (s : ByteArray) : Prop := ∀ i (h : i < s.size), Dig s[i]

theorem number_good (s : ByteArray) (w : World) (hs : s.size ≤ 1048577) (hd : AllDig s) :
    Calls Try.prog 21 #[.string s] w fun e w' => e = .returned (.int .i64 (wrap64 (pos s.data.toList))) ∧ w' = w := by
  have HD : Hid (AllDig s) := hd
  clear hd
  go_enter Try.func21, Try.ntmps21
  go_wp2
  go_loop [3, 7] (fun n i => ∃ k : Nat, k ≤ s.size ∧ i = .int .i64 k ∧ n = .int .i64 (wrap64 (pos (s.data.toList.take k)))) (fun _ i => s.size - (intOf i).toNat)
  case atStart => exact ⟨0, Nat.zero_le _, rfl, by rw [show pos (s.data.toList.take 0) = 0 from rfl, wrap_in 0 (by omega) (by omega)]⟩
  case round =>
    obtain ⟨k, hk, rfl, rfl⟩ := hrel
    by_cases hlt : k < s.size
    · have hdk := HD.out k hlt
      have hts := take_snoc s k hlt
      have HST : Hid (wrap64 (wrap64 (wrap64 (pos (s.data.toList.take k)) * 10) + ((s[k].toNat : Int) - 48)) = wrap64 (pos (s.data.toList.take (k + 1)))) := by
        rw [hts]
        exact number_step _ _
      have d0 : (48 : Int) ≤ (s[k].toNat : Int) := by have := hdk.1; omega
      have d1 : (s[k].toNat : Int) ≤ 57 := by have := hdk.2; omega
      clear hdk hts
      generalize wrap64 (pos (s.data.toList.take k)) = x at *
      go_wp2_with (go_at_call 25; refine (isDigit_yes _ _ d0 d1).mono ?_; rintro e w1 ⟨rfl, hw1⟩; subst w1)
      go_round
      case rel => exact ⟨k + 1, by omega, by go_num, by rw [HST.out]⟩
      case measure => simp [intOf]; omega
    · have e : s.data.toList.take k = s.data.toList := List.take_of_length_le (by simp; omega)
      rw [e]
      clear e
      go_wp2_with fail
      go_ret
      exact ⟨rfl, rfl⟩

theorem number_bad (s : ByteArray) (w : World) (hs : s.size ≤ 1048577) (hd : ¬ AllDig s) :
    Calls Try.prog 21 #[.string s] w fun e w' => e = .returned (.int .i64 (-1)) ∧ w' = w := by
  have HD : Hid (¬ AllDig s) := hd
  clear hd
  go_enter Try.func21, Try.ntmps21
  go_wp2
  go_loop [3, 7] (fun n i => ∃ (k : Nat) (q : Int), k ≤ s.size ∧ i = .int .i64 k ∧ n = .int .i64 q ∧ Hid (∀ i (h : i < s.size), i < k → Dig s[i])) (fun _ i => s.size - (intOf i).toNat)
  case atStart => exact ⟨0, _, Nat.zero_le _, rfl, rfl, fun _ _ hi => absurd hi (Nat.not_lt_zero _)⟩
  case round =>
    obtain ⟨k, q, hk, rfl, rfl, hdg⟩ := hrel
    by_cases hlt : k < s.size
    · by_cases hdk : Dig s[k]
      · have HN : Hid (∀ i (h : i < s.size), i < k + 1 → Dig s[i]) := by
          intro i h hi
          by_cases e : i = k
          · subst e
            exact hdk
          · exact hdg.out i h (by omega)
        have d0 : (48 : Int) ≤ (s[k].toNat : Int) := by have := hdk.1; omega
        have d1 : (s[k].toNat : Int) ≤ 57 := by have := hdk.2; omega
        clear hdk hdg
        go_wp2_with (go_at_call 25; refine (isDigit_yes _ _ d0 d1).mono ?_; rintro e w1 ⟨rfl, hw1⟩; subst w1)
        go_round
        case rel => exact ⟨k + 1, _, by omega, by go_num, rfl, HN⟩
        case measure => simp [intOf]; omega
      · have hno : (s[k].toNat : Int) < 48 ∨ 57 < (s[k].toNat : Int) := by
          unfold Dig at hdk
          omega
        have HNO : Hid ((s[k].toNat : Int) < 48 ∨ 57 < (s[k].toNat : Int)) := hno
        clear hdk hno hdg
        go_wp2_with (go_at_call 25; refine (isDigit_no _ _ HNO.out).mono ?_; rintro e w1 ⟨rfl, hw1⟩; subst w1)
        go_ret
        exact ⟨rfl, rfl⟩
    · exact absurd (fun i h => hdg.out i h (by omega)) HD.out

theorem zznumber_good (s : ByteArray) (w : World) (hs : s.size ≤ 1048577) (hd : AllDig s) :
    Calls Try.prog 10 #[.string s] w fun e w' => e = .returned (.int .i64 (wrap64 (pos s.data.toList))) ∧ w' = w := by
  have H : Hid (Calls Try.prog 21 #[.string s] w fun e w' => e = .returned (.int .i64 (wrap64 (pos s.data.toList))) ∧ w' = w) := number_good s w hs hd
  clear hd
  generalize wrap64 (pos s.data.toList) = x at *
  go_enter Try.func10, Try.ntmps10
  go_wp2_with (go_at_call 21; refine H.out.mono ?_; rintro e w1 ⟨rfl, hw1⟩; subst w1)
  go_ret
  exact ⟨rfl, rfl⟩

theorem zznumber_bad (s : ByteArray) (w : World) (hs : s.size ≤ 1048577) (hd : ¬ AllDig s) :
    Calls Try.prog 10 #[.string s] w fun e w' => e = .returned (.int .i64 (-1)) ∧ w' = w := by
  have H : Hid (Calls Try.prog 21 #[.string s] w fun e w' => e = .returned (.int .i64 (-1)) ∧ w' = w) := number_bad s w hs hd
  clear hd
  go_enter Try.func10, Try.ntmps10
  go_wp2_with (go_at_call 21; refine H.out.mono ?_; rintro e w1 ⟨rfl, hw1⟩; subst w1)
  go_ret
  exact ⟨rfl, rfl⟩
end Go.Proofs.Qxb6605806a
