/-
  Decimal numbers, plainly: no Go in sight.
-/
import Derived.WalkKit
namespace Go.Proofs.Qxb6605806a
open Go.RowKit

/-- The sum of each digit times ten to its place. -/
def pos : List UInt8 → Int
  | [] => 0
  | c :: t => ((c.toNat : Int) - 48) * 10 ^ t.length + pos t

theorem pos_snoc (l : List UInt8) (c : UInt8) : pos (l ++ [c]) = pos l * 10 + ((c.toNat : Int) - 48) := by
  induction l with
  | nil => simp [pos]
  | cons a t ih =>
    simp only [List.cons_append, pos, ih, List.length_append, List.length_cons, List.length_nil, Int.pow_succ, Int.add_mul]
    rw [Int.mul_assoc]
    omega

def Dig (c : UInt8) : Prop := 48 ≤ c.toNat ∧ c.toNat ≤ 57

theorem wrap_add_mul (x k : Int) : wrap64 (x + 18446744073709551616 * k) = wrap64 x := by
  unfold wrap64
  omega

theorem wrap_form (x : Int) : ∃ k, wrap64 x = x + 18446744073709551616 * k := by
  refine ⟨-((x + 9223372036854775808) / 18446744073709551616), ?_⟩
  unfold wrap64
  omega

theorem wrap_add (a b : Int) : wrap64 (wrap64 a + b) = wrap64 (a + b) := by
  obtain ⟨k, hk⟩ := wrap_form a
  rw [hk, show a + 18446744073709551616 * k + b = a + b + 18446744073709551616 * k by omega, wrap_add_mul]

theorem wrap_add_right (a b : Int) : wrap64 (a + wrap64 b) = wrap64 (a + b) := by
  rw [Int.add_comm, wrap_add, Int.add_comm]

theorem wrap_mul (a b : Int) : wrap64 (wrap64 a * b) = wrap64 (a * b) := by
  obtain ⟨k, hk⟩ := wrap_form a
  rw [hk, Int.add_mul, Int.mul_assoc, wrap_add_mul]

theorem wrap_mul_right (a b : Int) : wrap64 (a * wrap64 b) = wrap64 (a * b) := by
  rw [Int.mul_comm, wrap_mul, Int.mul_comm]

theorem wrap_in (x : Int) (h0 : -9223372036854775808 ≤ x) (h1 : x ≤ 9223372036854775807) : wrap64 x = x := by
  unfold wrap64
  omega

/-- One step of number. -/
theorem number_step (l : List UInt8) (c : UInt8) : wrap64 (wrap64 (wrap64 (pos l) * 10) + ((c.toNat : Int) - 48)) = wrap64 (pos (l ++ [c])) := by
  rw [pos_snoc, wrap_add, ← wrap_add, wrap_mul, wrap_add]

/-- One step of the sum from the right. -/
theorem sum_step (c : UInt8) (t : List UInt8) : wrap64 (wrap64 (pos t) + wrap64 (((c.toNat : Int) - 48) * wrap64 (10 ^ t.length))) = wrap64 (pos (c :: t)) := by
  rw [wrap_add, wrap_mul_right, wrap_add_right, Int.add_comm]
  rfl
end Go.Proofs.Qxb6605806a
