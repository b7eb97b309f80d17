/-
  Parts at an error that is one part: a marked error, a plain error; Parts(nil).
-/
import Derived.Test.Qxb6605765aSmall
import Derived.LoopN
namespace Go.Proofs.Qxb6605765a
open Go.RowKit

theorem assert43_52 (v : Value) (w : World) : (Instr.typeAssert (.iface 52 v) 24 43 true).run Try.prog w = .ok (.tuple #[.pointer none, .bool false]) w := by kernel_rfl
theorem assert43_56 (v : Value) (w : World) : (Instr.typeAssert (.iface 56 v) 24 43 true).run Try.prog w = .ok (.tuple #[.pointer none, .bool false]) w := by kernel_rfl

theorem parts_nil (w : World) :
    Calls Try.prog 10 #[.nilIface] w fun e w' => e = .returned (.slice none 0 0) ∧ w' = w := by
  go_enter Try.func10, Try.ntmps10
  go_wp2
  go_ret
  exact ⟨rfl, rfl⟩

theorem parts43 (v : Value) (w : World) :
    Calls Try.prog 10 #[.iface 43 v] w fun e w' => e = .returned (.slice (some ⟨w.heap.size, 0, none⟩) 1 1) ∧ w' = w.alloc (.cells #[.iface 43 v] 24) := by
  have a1 := assert43_43
  go_enter Try.func10, Try.ntmps10
  go_wp2_with fail
  refine wp_loop_rounds 1 ?_
  rw [rounds_succ]
  go_wp2_with fail
  go_ret
  exact ⟨rfl, rfl⟩

theorem parts52 (v : Value) (w : World) :
    Calls Try.prog 10 #[.iface 52 v] w fun e w' => e = .returned (.slice (some ⟨w.heap.size, 0, none⟩) 1 1) ∧ w' = w.alloc (.cells #[.iface 52 v] 24) := by
  have a1 := assert43_52
  have a2 := assert46_52
  have a3 := assert48_52
  go_enter Try.func10, Try.ntmps10
  go_wp2_with fail
  refine wp_loop_rounds 1 ?_
  rw [rounds_succ]
  go_wp2_with fail
  go_ret
  exact ⟨rfl, rfl⟩
end Go.Proofs.Qxb6605765a
