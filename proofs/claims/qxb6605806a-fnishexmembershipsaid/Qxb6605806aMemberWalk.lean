/-
  The walk of FnIsHexMembership.
-/
import Derived.Test.Qxb6605806aHex
namespace Go.Proofs.Qxb6605806a
open Go.RowKit

/-- The constant's k-th byte. -/
def hexAt (k : Nat) : Int := [48, 49, 50, 51, 52, 53, 54, 55, 56, 57, 97, 98, 99, 100, 101, 102, 65, 66, 67, 68, 69, 70].getD k 0

/-- Is c among the first k bytes? -/
def among (k : Nat) (c : Int) : Bool := (List.range k).any fun j => hexAt j == c

theorem among_succ (k : Nat) (c : Int) : among (k + 1) c = (among k c || (hexAt k == c)) := by
  simp [among, List.range_succ]

theorem hexAt_eq : ∀ k : Fin 22, ((({ data := #[48, 49, 50, 51, 52, 53, 54, 55, 56, 57, 97, 98, 99, 100, 101, 102, 65, 66, 67, 68, 69, 70] } : ByteArray)[k.val]'(k.isLt)).toNat : Int) = hexAt k.val := by
  decide +kernel

theorem step_is (k : Nat) (c : Int) (b : Bool) (hk : k < 22) (h : (((({ data := #[48, 49, 50, 51, 52, 53, 54, 55, 56, 57, 97, 98, 99, 100, 101, 102, 65, 66, 67, 68, 69, 70] } : ByteArray)[k]'hk).toNat : Int) == c) = b) : among (k + 1) c = (among k c || b) := by
  rw [among_succ, ← h, hexAt_eq ⟨k, hk⟩]

theorem hexB_nat : ∀ n : Fin 256, hexB (n.val : Int) = among 22 (n.val : Int) := by
  decide +kernel

theorem hexB_among (c : Int) (h0 : 0 ≤ c) (h1 : c ≤ 255) : hexB c = among 22 c := by
  obtain ⟨n, rfl⟩ := Int.eq_ofNat_of_zero_le h0
  exact hexB_nat ⟨n, by omega⟩

theorem member (c : Int) (w : World) (h0 : 0 ≤ c) (h1 : c ≤ 255) :
    Calls Try.prog 5 #[.int .u8 c] w fun e w' => e = .returned (.bool true) ∧ w' = w := by
  have H : Hid (Calls Try.prog 12 #[.int .u8 c] w fun e w' => e = .returned (.bool (hexB c)) ∧ w' = w) := zzisHex_any c w h0 h1
  have HB : Hid (hexB c = among 22 c) := hexB_among c h0 h1
  go_enter Try.func5, Try.ntmps5
  go_wp2_with fail
  go_loop [3, 4] (fun m i => ∃ k : Nat, k ≤ 22 ∧ i = .int .i64 k ∧ m = .bool (among k c)) (fun _ i => 22 - (intOf i).toNat)
  case atStart => exact ⟨0, by omega, rfl, rfl⟩
  case round =>
    obtain ⟨k, hk, rfl, rfl⟩ := hrel
    by_cases hlt : k < 22
    · go_wp2_with fail
      · go_round
        case rel => exact ⟨k + 1, by omega, by go_num, by rw [step_is k c true hlt (by assumption), Bool.or_true]⟩
        case measure => simp [intOf]; omega
      · go_round
        case rel => exact ⟨k + 1, by omega, by go_num, by rw [step_is k c false hlt (by assumption), Bool.or_false]⟩
        case measure => simp [intOf]; omega
    · obtain rfl : k = 22 := by omega
      rw [HB.out] at H
      go_wp2_with (go_at_call 12; refine H.out.mono ?_; rintro e w1 ⟨rfl, hw1⟩; subst w1)
      go_ret
      exact ⟨by simp, rfl⟩
end Go.Proofs.Qxb6605806a
