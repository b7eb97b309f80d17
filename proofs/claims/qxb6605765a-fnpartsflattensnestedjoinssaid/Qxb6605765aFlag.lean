/-
  zzBytes_FnPartsOfFlatJoin, zzFlag, by their contracts; what lies in the two rows that FnPartsOfFlatJoin fills.
-/
import Derived.Test.Qxb6605765aChain
namespace Go.Proofs.Qxb6605765a
open Go.RowKit

theorem bytes17 (a : Option Addr) (len cap : Nat) (xs : List Value) (am : Option Addr) (lm cm : Nat) (w : World) (h : IsRow w a len xs) (hs : ∀ i, i < len → ∃ s, xs.getD i .nilIface = .string s) (hm : len ≤ maxLen) (hlm : lm ≤ maxLen) :
    Calls Try.prog 17 #[.slice a len cap, .slice am lm cm] w (Answers w (∀ i, i < len → Small (xs.getD i .nilIface))) := by
  unfold maxLen at hm hlm
  have HR : Hid (IsRow w a len xs) := h
  have HS : Hid (∀ i, i < len → ∃ s, xs.getD i .nilIface = .string s) := hs
  clear h hs
  by_cases hbig : len ≤ 1048576
  · go_enter Try.func17, Try.ntmps17
    go_wp2
    go_loop [5, 6] (fun z i => ∃ (k : Nat) (q : Int), k ≤ len ∧ i = .int .i64 k ∧ z = .int .i64 q ∧ 0 ≤ q ∧ q ≤ 1048576 ∧ Hid (∀ i, i < k → Small (xs.getD i .nilIface))) (fun _ i => len - (intOf i).toNat)
    case atStart => exact ⟨0, _, Nat.zero_le _, rfl, rfl, by omega, by omega, fun _ hi => absurd hi (Nat.not_lt_zero _)⟩
    case round =>
      obtain ⟨k, q, hk, rfl, rfl, hq0, hq1, hsm⟩ := hrel
      by_cases hlt : k < len
      · obtain ⟨b, o, rfl, hc⟩ := HR.out.2 (by omega)
        have hck := hc k hlt
        obtain ⟨t, e⟩ := HS.out k hlt
        rw [e] at hck
        have HE : Hid (xs.getD k .nilIface = .string t) := e
        clear hc e
        go_wp2
        · go_ret
          exact ⟨_, rfl, rfl, fun h => by cases h⟩
        · go_ret
          exact ⟨_, rfl, rfl, fun h => by cases h⟩
        · have htt : (t.size : Int) ≤ 1048576 := by omega
          go_round
          case rel =>
            refine ⟨k + 1, _, by omega, by go_num, rfl, by omega, by omega, fun i hi => ?_⟩
            by_cases e : i = k
            · subst e
              exact ⟨t, HE.out, by omega⟩
            · exact hsm.out i (by omega)
          case measure => simp [intOf]; omega
      · have hall : Hid (∀ i, i < len → Small (xs.getD i .nilIface)) := fun i hi => hsm.out i (by omega)
        go_wp2
        all_goals
          go_ret
          exact ⟨_, rfl, rfl, fun _ => hall.out⟩
  · go_enter Try.func17, Try.ntmps17
    go_wp2
    go_ret
    exact ⟨_, rfl, rfl, fun h => by cases h⟩

/-- The flag at i: false where the row is too short. -/
def flagAt (ys : List Value) (i : Nat) : Bool :=
  match ys.getD i .nilIface with
  | .bool b => b
  | _ => false

theorem flag_any (a : Option Addr) (len cap : Nat) (ys : List Value) (i : Nat) (w : World) (h : IsRow w a len ys) (hs : ∀ i, i < len → ∃ s, ys.getD i .nilIface = .bool s) (hm : len ≤ 4194304) (hi : i ≤ 4194304) :
    Calls Try.prog 19 #[.slice a len cap, .int .i64 i] w fun e w' => e = .returned (.bool (flagAt ys i)) ∧ w' = w := by
  by_cases hlt : i < len
  · obtain ⟨b, o, rfl, hc⟩ := h.2 (by omega)
    have hck := hc i hlt
    obtain ⟨t, e⟩ := hs i hlt
    rw [e] at hck
    have ef : flagAt ys i = t := by simp only [flagAt, e]
    rw [ef]
    clear hc e ef h hs
    go_enter Try.func19, Try.ntmps19
    go_wp2
    go_ret
    exact ⟨rfl, rfl⟩
  · have ef : flagAt ys i = false := by
      have : ys.getD i .nilIface = .nilIface := by rw [List.getD_eq_getElem?_getD, List.getElem?_eq_none (by rw [h.1]; omega)]; rfl
      simp only [flagAt, this]
    rw [ef]
    clear ef h hs
    have hd : decide ((i : Int) < (len : Int)) = false := by simp; omega
    go_enter Try.func19, Try.ntmps19
    go_wp2
    go_ret
    exact ⟨rfl, rfl⟩
end Go.Proofs.Qxb6605765a
