/-
  The bounds on total length (zzBytes_..): each answers some bool and touches nothing. zzFlag.
-/
import Derived.Test.Qxb6605765aClone
namespace Go.Proofs.Qxb6605765a
open Go.RowKit

/-- Some bool comes back, and if it is true, then q; the world stands. -/
def Answers (w : World) (q : Prop) (e : Ending) (w' : World) : Prop := ∃ bv, e = .returned (.bool bv) ∧ w' = w ∧ (bv = true → q)

def Small (v : Value) : Prop := ∃ s : ByteArray, v = .string s ∧ s.size ≤ 1048576

theorem bytes14 (a : Option Addr) (len cap : Nat) (xs : List Value) (s : ByteArray) (n : Int) (w : World) (h : IsRow w a len xs) (hs : ∀ i, i < len → ∃ s, xs.getD i .nilIface = .string s) (hm : len ≤ maxLen) :
    Calls Try.prog 14 #[.slice a len cap, .string s, .int .i64 n] w (Answers w (∀ i, i < len → Small (xs.getD i .nilIface))) := by
  unfold maxLen at hm
  have HR : Hid (IsRow w a len xs) := h
  have HS : Hid (∀ i, i < len → ∃ s, xs.getD i .nilIface = .string s) := hs
  clear h hs
  by_cases hbig : len ≤ 1048576
  · go_enter Try.func14, Try.ntmps14
    go_wp2
    go_loop [7, 8] (fun z i => ∃ (k : Nat) (q : Int), k ≤ len ∧ i = .int .i64 k ∧ z = .int .i64 q ∧ 0 ≤ q ∧ q ≤ 1048576 ∧ Hid (∀ i, i < k → Small (xs.getD i .nilIface))) (fun _ i => len - (intOf i).toNat)
    case atStart => exact ⟨0, _, Nat.zero_le _, rfl, rfl, by omega, by omega, fun _ hi => absurd hi (Nat.not_lt_zero _)⟩
    case round =>
      obtain ⟨k, q, hk, rfl, rfl, hq0, hq1, hsm⟩ := hrel
      by_cases hlt : k < len
      · obtain ⟨b, o, rfl, hc⟩ := HR.out.2 (by omega)
        have hck := hc k hlt
        obtain ⟨t, e⟩ := HS.out k hlt
        rw [e] at hck
        have HE : Hid (xs.getD k .nilIface = .string t) := e
        clear hc e
        go_wp2
        · go_ret
          exact ⟨_, rfl, rfl, fun h => by cases h⟩
        · go_ret
          exact ⟨_, rfl, rfl, fun h => by cases h⟩
        · have htt : (t.size : Int) ≤ 1048576 := by omega
          go_round
          case rel =>
            refine ⟨k + 1, _, by omega, by go_num, rfl, by omega, by omega, fun i hi => ?_⟩
            by_cases e : i = k
            · subst e
              exact ⟨t, HE.out, by omega⟩
            · exact hsm.out i (by omega)
          case measure => simp [intOf]; omega
      · have hall : Hid (∀ i, i < len → Small (xs.getD i .nilIface)) := fun i hi => hsm.out i (by omega)
        go_wp2
        all_goals
          go_ret
          exact ⟨_, rfl, rfl, fun _ => hall.out⟩
  · go_enter Try.func14, Try.ntmps14
    go_wp2
    go_ret
    exact ⟨_, rfl, rfl, fun h => by cases h⟩
end Go.Proofs.Qxb6605765a
