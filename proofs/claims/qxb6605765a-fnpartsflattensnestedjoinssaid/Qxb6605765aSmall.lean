/-
  The small functions on the road of every statement of this seat: errors.New, errors.Unwrap, Retryable, ZZSame, ZZErrorText, ZZUnwrap, by their contracts.
  TYPES: 24 error · 27 []error · 43 *retryable · 45 retryable · 46 interface{ Unwrap() []error } · 48 interface{ Unwrap() error } · 52 *errorString · 54 errorString · 56 *joinError · 58 joinError.
-/
import Derived.Test.Qxb6605765aRows
import Derived.WalkKit
import Derived.WalkSpells
import Derived.LaidEql
import Derived.Stop.Asserts
namespace Go.Proofs.Qxb6605765a
open Go.RowKit

/-! ### closed facts -/
theorem assert43_43 (v : Value) (w : World) : (Instr.typeAssert (.iface 43 v) 24 43 true).run Try.prog w = .ok (.tuple #[v, .bool true]) w := by kernel_rfl
theorem assert48_43 (v : Value) (xT : TypeId) (w : World) : (Instr.typeAssert (.iface 43 v) xT 48 true).run Try.prog w = .ok (.tuple #[.iface 43 v, .bool true]) w := run_typeAssert_hasB Try.underlying48 (by kernel_rfl) v xT w
theorem assert48_52 (v : Value) (xT : TypeId) (w : World) : (Instr.typeAssert (.iface 52 v) xT 48 true).run Try.prog w = .ok (.tuple #[.nilIface, .bool false]) w := run_typeAssert_lacksB Try.underlying48 (by kernel_rfl) (by kernel_rfl) v xT w
theorem assert48_56 (v : Value) (xT : TypeId) (w : World) : (Instr.typeAssert (.iface 56 v) xT 48 true).run Try.prog w = .ok (.tuple #[.nilIface, .bool false]) w := run_typeAssert_lacksB Try.underlying48 (by kernel_rfl) (by kernel_rfl) v xT w
theorem assert46_52 (v : Value) (xT : TypeId) (w : World) : (Instr.typeAssert (.iface 52 v) xT 46 true).run Try.prog w = .ok (.tuple #[.nilIface, .bool false]) w := run_typeAssert_lacksB Try.underlying46 (by kernel_rfl) (by kernel_rfl) v xT w
theorem assert46_56 (v : Value) (xT : TypeId) (w : World) : (Instr.typeAssert (.iface 56 v) xT 46 true).run Try.prog w = .ok (.tuple #[.iface 56 v, .bool true]) w := run_typeAssert_hasB Try.underlying46 (by kernel_rfl) v xT w
theorem comp43 : (Try.prog.info? 43).map (·.comparable) = some true := by kernel_rfl
theorem comp52 : (Try.prog.info? 52).map (·.comparable) = some true := by kernel_rfl
theorem comp56 : (Try.prog.info? 56).map (·.comparable) = some true := by kernel_rfl
theorem size45 : (Try.prog.info? 45).map (·.size) = some 1 := by kernel_rfl
theorem size54 : (Try.prog.info? 54).map (·.size) = some 1 := by kernel_rfl
theorem size58 : (Try.prog.info? 58).map (·.size) = some 1 := by kernel_rfl

/-! ### errors.New -/
theorem new_any (s : ByteArray) (w : World) :
    Calls Try.prog 23 #[.string s] w fun e w' => e = .returned (.iface 52 (.pointer (some ⟨w.heap.size, 0, none⟩))) ∧ w' = w.alloc (.cells #[.string s] 54) := by
  go_enter Try.func23, Try.ntmps23
  go_wp2
  go_ret
  exact ⟨rfl, rfl⟩

theorem retryable_nil (w : World) :
    Calls Try.prog 8 #[.nilIface] w fun e w' => e = .returned .nilIface ∧ w' = w := by
  go_enter Try.func8, Try.ntmps8
  go_wp2
  go_ret
  exact ⟨rfl, rfl⟩

theorem retryable_some (t : TypeId) (v : Value) (w : World) :
    Calls Try.prog 8 #[.iface t v] w fun e w' => e = .returned (.iface 43 (.pointer (some ⟨w.heap.size, 0, none⟩))) ∧ w' = w.alloc (.cells #[.iface t v] 45) := by
  go_enter Try.func8, Try.ntmps8
  go_wp2
  go_ret
  exact ⟨rfl, rfl⟩

theorem zznew_any (s : ByteArray) (w : World) :
    Calls Try.prog 9 #[.string s] w fun e w' => e = .returned (.iface 52 (.pointer (some ⟨w.heap.size, 0, none⟩))) ∧ w' = w.alloc (.cells #[.string s] 54) := by
  go_enter Try.func9, Try.ntmps9
  go_wp2_with (go_at_call 23; refine (new_any _ _).mono ?_; rintro e w' ⟨rfl, rfl⟩)
  go_ret
  exact ⟨rfl, rfl⟩

/-! ### the methods of retryable, errorString, joinError -/
theorem unwrapR (b o : Nat) (u : Value) (w : World) (h : w.cell? ⟨b, o, none⟩ = some u) (hu : u = .nilIface ∨ ∃ t v, u = .iface t v) :
    Calls Try.prog 42 #[.pointer (some ⟨b, o, none⟩)] w fun e w' => e = .returned u ∧ w' = w := by
  rcases hu with rfl | ⟨t, v, rfl⟩
  all_goals
    go_enter Try.func42, Try.ntmps42
    go_wp2
    go_ret
    exact ⟨rfl, rfl⟩

theorem errorS (b o : Nat) (s : ByteArray) (w : World) (h : w.cell? ⟨b, o, none⟩ = some (.string s)) :
    Calls Try.prog 43 #[.pointer (some ⟨b, o, none⟩)] w fun e w' => e = .returned (.string s) ∧ w' = w := by
  go_enter Try.func43, Try.ntmps43
  go_wp2
  go_ret
  exact ⟨rfl, rfl⟩

theorem unwrapJ (b o : Nat) (a : Option Addr) (n c : Nat) (w : World) (h : w.cell? ⟨b, o, none⟩ = some (.slice a n c)) :
    Calls Try.prog 45 #[.pointer (some ⟨b, o, none⟩)] w fun e w' => e = .returned (.slice a n c) ∧ w' = w := by
  go_enter Try.func45, Try.ntmps45
  go_wp2
  go_ret
  exact ⟨rfl, rfl⟩

/-! ### ZZSame -/
theorem same43 (a : Addr) (w : World) :
    Calls Try.prog 11 #[.iface 43 (.pointer (some a)), .iface 43 (.pointer (some a))] w fun e w' => e = .returned (.bool true) ∧ w' = w := by
  obtain ⟨i, hi, hcmp⟩ := Option.map_eq_some_iff.1 comp43
  obtain ⟨j, hj, hjs⟩ := Option.map_eq_some_iff.1 size45
  have heq := run_eql_iface_ptr_same (P := Try.prog) w a Try.underlying24 Try.underlying43 hi hcmp hj
  go_enter Try.func11, Try.ntmps11
  go_wp2
  go_ret
  exact ⟨rfl, rfl⟩

theorem same52 (a : Addr) (w : World) :
    Calls Try.prog 11 #[.iface 52 (.pointer (some a)), .iface 52 (.pointer (some a))] w fun e w' => e = .returned (.bool true) ∧ w' = w := by
  obtain ⟨i, hi, hcmp⟩ := Option.map_eq_some_iff.1 comp52
  obtain ⟨j, hj, hjs⟩ := Option.map_eq_some_iff.1 size54
  have heq := run_eql_iface_ptr_same (P := Try.prog) w a Try.underlying24 Try.underlying52 hi hcmp hj
  go_enter Try.func11, Try.ntmps11
  go_wp2
  go_ret
  exact ⟨rfl, rfl⟩

theorem same56 (a : Addr) (w : World) :
    Calls Try.prog 11 #[.iface 56 (.pointer (some a)), .iface 56 (.pointer (some a))] w fun e w' => e = .returned (.bool true) ∧ w' = w := by
  obtain ⟨i, hi, hcmp⟩ := Option.map_eq_some_iff.1 comp56
  obtain ⟨j, hj, hjs⟩ := Option.map_eq_some_iff.1 size58
  have heq := run_eql_iface_ptr_same (P := Try.prog) w a Try.underlying24 Try.underlying56 hi hcmp hj
  go_enter Try.func11, Try.ntmps11
  go_wp2
  go_ret
  exact ⟨rfl, rfl⟩

/-! ### errors.Unwrap, ZZUnwrap, ZZErrorText -/
theorem method43u (v : Value) (w : World) : (Go.method 176 43 v "Unwrap").run Try.prog w = .ok (42, v) w := by kernel_rfl
theorem method56u (v : Value) (w : World) : (Go.method 176 56 v "Unwrap").run Try.prog w = .ok (45, v) w := by kernel_rfl
theorem method43e (v : Value) (w : World) : (Go.method 176 43 v "Error").run Try.prog w = .ok (41, v) w := by kernel_rfl
theorem method52e (v : Value) (w : World) : (Go.method 176 52 v "Error").run Try.prog w = .ok (43, v) w := by kernel_rfl

theorem unwrap43 (b o : Nat) (u : Value) (w : World) (h : w.cell? ⟨b, o, none⟩ = some u) (hu : u = .nilIface ∨ ∃ t v, u = .iface t v) :
    Calls Try.prog 24 #[.iface 43 (.pointer (some ⟨b, o, none⟩))] w fun e w' => e = .returned u ∧ w' = w := by
  have a1 := assert48_43
  have m1 := method43u
  go_enter Try.func24, Try.ntmps24
  go_wp2_with (go_at_call 42; refine (unwrapR _ _ _ _ h hu).mono ?_; rintro e w' ⟨rfl, rfl⟩)
  go_ret
  exact ⟨rfl, rfl⟩

theorem unwrap52 (v : Value) (w : World) :
    Calls Try.prog 24 #[.iface 52 v] w fun e w' => e = .returned .nilIface ∧ w' = w := by
  have a1 := assert48_52
  go_enter Try.func24, Try.ntmps24
  go_wp2
  go_ret
  exact ⟨rfl, rfl⟩

theorem zzunwrap43 (b o : Nat) (u : Value) (w : World) (h : w.cell? ⟨b, o, none⟩ = some u) (hu : u = .nilIface ∨ ∃ t v, u = .iface t v) :
    Calls Try.prog 13 #[.iface 43 (.pointer (some ⟨b, o, none⟩))] w fun e w' => e = .returned u ∧ w' = w := by
  go_enter Try.func13, Try.ntmps13
  go_wp2_with (go_at_call 24; refine (unwrap43 _ _ _ _ h hu).mono ?_; rintro e w' ⟨rfl, rfl⟩)
  go_ret
  exact ⟨rfl, rfl⟩

theorem zzunwrap52 (v : Value) (w : World) :
    Calls Try.prog 13 #[.iface 52 v] w fun e w' => e = .returned .nilIface ∧ w' = w := by
  go_enter Try.func13, Try.ntmps13
  go_wp2_with (go_at_call 24; refine (unwrap52 _ _).mono ?_; rintro e w' ⟨rfl, rfl⟩)
  go_ret
  exact ⟨rfl, rfl⟩

/-- v is a plain error of text s, under k marks of Retryable. -/
def Lay (w : World) (s : ByteArray) : Nat → Value → Prop
  | 0, v => ∃ b o, v = .iface 52 (.pointer (some ⟨b, o, none⟩)) ∧ w.cell? ⟨b, o, none⟩ = some (.string s)
  | k + 1, v => ∃ b o u, v = .iface 43 (.pointer (some ⟨b, o, none⟩)) ∧ w.cell? ⟨b, o, none⟩ = some u ∧ Lay w s k u

/-- (*retryable).Error, by the number of marks. -/
theorem errorR (w : World) (s : ByteArray) : ∀ (k b o : Nat) (u : Value), w.cell? ⟨b, o, none⟩ = some u → Lay w s k u →
    Calls Try.prog 41 #[.pointer (some ⟨b, o, none⟩)] w fun e w' => e = .returned (.string s) ∧ w' = w := by
  intro k
  induction k with
  | zero =>
    rintro b o u h ⟨b1, o1, rfl, h1⟩
    have m1 := method52e
    go_enter Try.func41, Try.ntmps41
    go_wp2_with (go_at_call 43; refine (errorS _ _ _ _ h1).mono ?_; rintro e w' ⟨rfl, rfl⟩)
    go_ret
    exact ⟨rfl, rfl⟩
  | succ k ih =>
    rintro b o u h ⟨b1, o1, u1, rfl, h1, hl⟩
    have H := ih b1 o1 u1 h1 hl
    have HH : Hid (Calls Try.prog 41 #[.pointer (some ⟨b1, o1, none⟩)] w fun e w' => e = .returned (.string s) ∧ w' = w) := H
    clear H ih hl h1
    have m1 := method43e
    go_enter Try.func41, Try.ntmps41
    go_wp2_with (go_at_call 41; refine HH.out.mono ?_; rintro e w' ⟨rfl, rfl⟩)
    go_ret
    exact ⟨rfl, rfl⟩

theorem zztext (w : World) (s : ByteArray) (k : Nat) (v : Value) (hl : Lay w s k v) :
    Calls Try.prog 12 #[v] w fun e w' => e = .returned (.string s) ∧ w' = w := by
  cases k with
  | zero =>
    obtain ⟨b1, o1, rfl, h1⟩ := hl
    have m1 := method52e
    go_enter Try.func12, Try.ntmps12
    go_wp2_with (go_at_call 43; refine (errorS _ _ _ _ h1).mono ?_; rintro e w' ⟨rfl, rfl⟩)
    go_ret
    exact ⟨rfl, rfl⟩
  | succ k =>
    obtain ⟨b1, o1, u1, rfl, h1, hl⟩ := hl
    have HH : Hid (Calls Try.prog 41 #[.pointer (some ⟨b1, o1, none⟩)] w fun e w' => e = .returned (.string s) ∧ w' = w) := errorR w s k b1 o1 u1 h1 hl
    clear hl h1
    have m1 := method43e
    go_enter Try.func12, Try.ntmps12
    go_wp2_with (go_at_call 41; refine HH.out.mono ?_; rintro e w' ⟨rfl, rfl⟩)
    go_ret
    exact ⟨rfl, rfl⟩
end Go.Proofs.Qxb6605765a
