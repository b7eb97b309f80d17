/-
  The walk of FnIsHexCaseBlindAndCount.
-/
import Derived.Test.Qxb6605806aHex
namespace Go.Proofs.Qxb6605806a
open Go.RowKit

/-- How many of the first k bytes isHex takes. -/
def hexCount : Nat → Nat
  | 0 => 0
  | k + 1 => hexCount k + (if hexB (k : Int) = true then 1 else 0)

theorem hexCount_yes (k : Nat) (h : hexB (k : Int) = true) : hexCount (k + 1) = hexCount k + 1 := by simp [hexCount, h]
theorem hexCount_no (k : Nat) (h : hexB (k : Int) = false) : hexCount (k + 1) = hexCount k := by simp [hexCount, h]

theorem hexCount_le (k : Nat) : hexCount k ≤ k := by
  induction k with
  | zero => simp [hexCount]
  | succ k ih =>
    simp only [hexCount]
    split <;> omega

theorem hexCount_all : hexCount 256 = 22 := by decide +kernel

theorem flip_nat : ∀ n : Fin 256, (97 ≤ n.val ∧ n.val ≤ 122) ∨ (65 ≤ n.val ∧ n.val ≤ 90) → hexB (bits .xor .u8 (n.val : Int) 32) = hexB (n.val : Int) ∧ 0 ≤ bits .xor .u8 (n.val : Int) 32 ∧ bits .xor .u8 (n.val : Int) 32 ≤ 255 := by
  decide +kernel

theorem flip (c : Int) (h : (97 ≤ c ∧ c ≤ 122) ∨ (65 ≤ c ∧ c ≤ 90)) : hexB (bits .xor .u8 c 32) = hexB c ∧ 0 ≤ bits .xor .u8 c 32 ∧ bits .xor .u8 c 32 ≤ 255 := by
  obtain ⟨n, rfl⟩ := Int.eq_ofNat_of_zero_le (show 0 ≤ c by omega)
  exact flip_nat ⟨n, by omega⟩ (by simp only; omega)

set_option maxRecDepth 100000 in
theorem blind (c : Int) (w : World) (h0 : 0 ≤ c) (h1 : c ≤ 255) :
    Calls Try.prog 6 #[.int .u8 c] w fun e w' => e = .returned (.bool true) ∧ w' = w := by
  have hcase : c < 65 ∨ (65 ≤ c ∧ c ≤ 90) ∨ (90 < c ∧ c < 97) ∨ (97 ≤ c ∧ c ≤ 122) ∨ 122 < c := by omega
  rcases hcase with hc | ⟨hc, hd⟩ | ⟨hc, hd⟩ | ⟨hc, hd⟩ | hc
  · have f0 := h0
    have f1 := h1
    go_enter Try.func6, Try.ntmps6
    go_wp2_with fail
    go_loop [4, 5] (fun m i => ∃ k : Nat, k ≤ 256 ∧ i = .int .i64 k ∧ m = .int .i64 (hexCount k : Nat)) (fun _ i => 256 - (intOf i).toNat)
    case atStart => exact ⟨0, by omega, rfl, rfl⟩
    case round =>
      obtain ⟨k, hk, rfl, rfl⟩ := hrel
      have hle := hexCount_le k
      by_cases hlt : k < 256
      · have HC : Hid (Calls Try.prog 12 #[.int .u8 k] w fun e w' => e = .returned (.bool (hexB k)) ∧ w' = w) := zzisHex_any k w (by omega) (by omega)
        cases hb : hexB (k : Int) with
        | true =>
          have HN : Hid (hexCount (k + 1) = hexCount k + 1) := hexCount_yes k hb
          rw [hb] at HC
          clear hb
          go_wp2_with (go_at_call 12; refine HC.out.mono ?_; rintro e w1 ⟨rfl, hw1⟩; subst w1)
          go_round
          case rel => exact ⟨k + 1, by omega, by go_num, by rw [HN.out]; go_num⟩
          case measure => simp [intOf]; omega
        | false =>
          have HN : Hid (hexCount (k + 1) = hexCount k) := hexCount_no k hb
          rw [hb] at HC
          clear hb
          go_wp2_with (go_at_call 12; refine HC.out.mono ?_; rintro e w1 ⟨rfl, hw1⟩; subst w1)
          go_round
          case rel => exact ⟨k + 1, by omega, by go_num, by rw [HN.out]⟩
          case measure => simp [intOf]; omega
      · obtain rfl : k = 256 := by omega
        rw [hexCount_all]
        clear hle
        go_wp2_with fail
        refine (zzisHex_any _ _ h0 h1).mono ?_
        rintro e w1 ⟨rfl, hw1⟩
        subst w1
        go_wp2_with fail
        refine (zzisHex_any _ _ f0 f1).mono ?_
        rintro e w1 ⟨rfl, hw1⟩
        subst w1
        go_wp2_with fail
        go_ret
        exact ⟨by simp, rfl⟩
  · obtain ⟨hf, f0, f1⟩ := flip c (.inr ⟨hc, hd⟩)
    have HF : Hid (hexB (bits .xor .u8 c 32) = hexB c) := hf
    clear hf
    go_enter Try.func6, Try.ntmps6
    go_wp2_with fail
    generalize bits .xor .u8 c 32 = f at *
    go_loop [4, 5] (fun m i => ∃ k : Nat, k ≤ 256 ∧ i = .int .i64 k ∧ m = .int .i64 (hexCount k : Nat)) (fun _ i => 256 - (intOf i).toNat)
    case atStart => exact ⟨0, by omega, rfl, rfl⟩
    case round =>
      obtain ⟨k, hk, rfl, rfl⟩ := hrel
      have hle := hexCount_le k
      by_cases hlt : k < 256
      · have HC : Hid (Calls Try.prog 12 #[.int .u8 k] w fun e w' => e = .returned (.bool (hexB k)) ∧ w' = w) := zzisHex_any k w (by omega) (by omega)
        cases hb : hexB (k : Int) with
        | true =>
          have HN : Hid (hexCount (k + 1) = hexCount k + 1) := hexCount_yes k hb
          rw [hb] at HC
          clear hb
          go_wp2_with (go_at_call 12; refine HC.out.mono ?_; rintro e w1 ⟨rfl, hw1⟩; subst w1)
          go_round
          case rel => exact ⟨k + 1, by omega, by go_num, by rw [HN.out]; go_num⟩
          case measure => simp [intOf]; omega
        | false =>
          have HN : Hid (hexCount (k + 1) = hexCount k) := hexCount_no k hb
          rw [hb] at HC
          clear hb
          go_wp2_with (go_at_call 12; refine HC.out.mono ?_; rintro e w1 ⟨rfl, hw1⟩; subst w1)
          go_round
          case rel => exact ⟨k + 1, by omega, by go_num, by rw [HN.out]⟩
          case measure => simp [intOf]; omega
      · obtain rfl : k = 256 := by omega
        rw [hexCount_all]
        clear hle
        go_wp2_with fail
        refine (zzisHex_any _ _ h0 h1).mono ?_
        rintro e w1 ⟨rfl, hw1⟩
        subst w1
        go_wp2_with fail
        refine (zzisHex_any _ _ f0 f1).mono ?_
        rintro e w1 ⟨rfl, hw1⟩
        subst w1
        rw [HF.out]
        go_wp2_with fail
        go_ret
        exact ⟨by simp, rfl⟩
  · have f0 := h0
    have f1 := h1
    go_enter Try.func6, Try.ntmps6
    go_wp2_with fail
    go_loop [4, 5] (fun m i => ∃ k : Nat, k ≤ 256 ∧ i = .int .i64 k ∧ m = .int .i64 (hexCount k : Nat)) (fun _ i => 256 - (intOf i).toNat)
    case atStart => exact ⟨0, by omega, rfl, rfl⟩
    case round =>
      obtain ⟨k, hk, rfl, rfl⟩ := hrel
      have hle := hexCount_le k
      by_cases hlt : k < 256
      · have HC : Hid (Calls Try.prog 12 #[.int .u8 k] w fun e w' => e = .returned (.bool (hexB k)) ∧ w' = w) := zzisHex_any k w (by omega) (by omega)
        cases hb : hexB (k : Int) with
        | true =>
          have HN : Hid (hexCount (k + 1) = hexCount k + 1) := hexCount_yes k hb
          rw [hb] at HC
          clear hb
          go_wp2_with (go_at_call 12; refine HC.out.mono ?_; rintro e w1 ⟨rfl, hw1⟩; subst w1)
          go_round
          case rel => exact ⟨k + 1, by omega, by go_num, by rw [HN.out]; go_num⟩
          case measure => simp [intOf]; omega
        | false =>
          have HN : Hid (hexCount (k + 1) = hexCount k) := hexCount_no k hb
          rw [hb] at HC
          clear hb
          go_wp2_with (go_at_call 12; refine HC.out.mono ?_; rintro e w1 ⟨rfl, hw1⟩; subst w1)
          go_round
          case rel => exact ⟨k + 1, by omega, by go_num, by rw [HN.out]⟩
          case measure => simp [intOf]; omega
      · obtain rfl : k = 256 := by omega
        rw [hexCount_all]
        clear hle
        go_wp2_with fail
        refine (zzisHex_any _ _ h0 h1).mono ?_
        rintro e w1 ⟨rfl, hw1⟩
        subst w1
        go_wp2_with fail
        refine (zzisHex_any _ _ f0 f1).mono ?_
        rintro e w1 ⟨rfl, hw1⟩
        subst w1
        go_wp2_with fail
        go_ret
        exact ⟨by simp, rfl⟩
  · obtain ⟨hf, f0, f1⟩ := flip c (.inl ⟨hc, hd⟩)
    have HF : Hid (hexB (bits .xor .u8 c 32) = hexB c) := hf
    clear hf
    go_enter Try.func6, Try.ntmps6
    go_wp2_with fail
    generalize bits .xor .u8 c 32 = f at *
    go_loop [4, 5] (fun m i => ∃ k : Nat, k ≤ 256 ∧ i = .int .i64 k ∧ m = .int .i64 (hexCount k : Nat)) (fun _ i => 256 - (intOf i).toNat)
    case atStart => exact ⟨0, by omega, rfl, rfl⟩
    case round =>
      obtain ⟨k, hk, rfl, rfl⟩ := hrel
      have hle := hexCount_le k
      by_cases hlt : k < 256
      · have HC : Hid (Calls Try.prog 12 #[.int .u8 k] w fun e w' => e = .returned (.bool (hexB k)) ∧ w' = w) := zzisHex_any k w (by omega) (by omega)
        cases hb : hexB (k : Int) with
        | true =>
          have HN : Hid (hexCount (k + 1) = hexCount k + 1) := hexCount_yes k hb
          rw [hb] at HC
          clear hb
          go_wp2_with (go_at_call 12; refine HC.out.mono ?_; rintro e w1 ⟨rfl, hw1⟩; subst w1)
          go_round
          case rel => exact ⟨k + 1, by omega, by go_num, by rw [HN.out]; go_num⟩
          case measure => simp [intOf]; omega
        | false =>
          have HN : Hid (hexCount (k + 1) = hexCount k) := hexCount_no k hb
          rw [hb] at HC
          clear hb
          go_wp2_with (go_at_call 12; refine HC.out.mono ?_; rintro e w1 ⟨rfl, hw1⟩; subst w1)
          go_round
          case rel => exact ⟨k + 1, by omega, by go_num, by rw [HN.out]⟩
          case measure => simp [intOf]; omega
      · obtain rfl : k = 256 := by omega
        rw [hexCount_all]
        clear hle
        go_wp2_with fail
        refine (zzisHex_any _ _ h0 h1).mono ?_
        rintro e w1 ⟨rfl, hw1⟩
        subst w1
        go_wp2_with fail
        refine (zzisHex_any _ _ f0 f1).mono ?_
        rintro e w1 ⟨rfl, hw1⟩
        subst w1
        rw [HF.out]
        go_wp2_with fail
        go_ret
        exact ⟨by simp, rfl⟩
  · have f0 := h0
    have f1 := h1
    go_enter Try.func6, Try.ntmps6
    go_wp2_with fail
    go_loop [4, 5] (fun m i => ∃ k : Nat, k ≤ 256 ∧ i = .int .i64 k ∧ m = .int .i64 (hexCount k : Nat)) (fun _ i => 256 - (intOf i).toNat)
    case atStart => exact ⟨0, by omega, rfl, rfl⟩
    case round =>
      obtain ⟨k, hk, rfl, rfl⟩ := hrel
      have hle := hexCount_le k
      by_cases hlt : k < 256
      · have HC : Hid (Calls Try.prog 12 #[.int .u8 k] w fun e w' => e = .returned (.bool (hexB k)) ∧ w' = w) := zzisHex_any k w (by omega) (by omega)
        cases hb : hexB (k : Int) with
        | true =>
          have HN : Hid (hexCount (k + 1) = hexCount k + 1) := hexCount_yes k hb
          rw [hb] at HC
          clear hb
          go_wp2_with (go_at_call 12; refine HC.out.mono ?_; rintro e w1 ⟨rfl, hw1⟩; subst w1)
          go_round
          case rel => exact ⟨k + 1, by omega, by go_num, by rw [HN.out]; go_num⟩
          case measure => simp [intOf]; omega
        | false =>
          have HN : Hid (hexCount (k + 1) = hexCount k) := hexCount_no k hb
          rw [hb] at HC
          clear hb
          go_wp2_with (go_at_call 12; refine HC.out.mono ?_; rintro e w1 ⟨rfl, hw1⟩; subst w1)
          go_round
          case rel => exact ⟨k + 1, by omega, by go_num, by rw [HN.out]⟩
          case measure => simp [intOf]; omega
      · obtain rfl : k = 256 := by omega
        rw [hexCount_all]
        clear hle
        go_wp2_with fail
        refine (zzisHex_any _ _ h0 h1).mono ?_
        rintro e w1 ⟨rfl, hw1⟩
        subst w1
        go_wp2_with fail
        refine (zzisHex_any _ _ f0 f1).mono ?_
        rintro e w1 ⟨rfl, hw1⟩
        subst w1
        go_wp2_with fail
        go_ret
        exact ⟨by simp, rfl⟩
end Go.Proofs.Qxb6605806a
