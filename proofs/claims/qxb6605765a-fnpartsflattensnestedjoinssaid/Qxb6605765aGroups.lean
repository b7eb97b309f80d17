/-
  Groups of texts: a slice of slices of strings, as the walks are told of it; its clone; the bound on its total length.
-/
import Derived.Test.Qxb6605765aFlag
namespace Go.Proofs.Qxb6605765a
open Go.RowKit

def IsGroups (w : World) (a : Option Addr) (len : Nat) (gs : List (List Value)) : Prop :=
  gs.length = len ∧ (0 < len → ∃ b o, a = some ⟨b, o, none⟩ ∧ ∀ i, i < len → ∃ a' c, w.cell? ⟨b, o + i, none⟩ = some (.slice a' (gs.getD i []).length c) ∧ IsRow w a' (gs.getD i []).length (gs.getD i []))

theorem IsGroups.later {w w' : World} (hb : Below w.heap.size w w') {a : Option Addr} {len : Nat} {gs : List (List Value)} (h : IsGroups w a len gs) : IsGroups w' a len gs :=
  ⟨h.1, fun hp => let ⟨b, o, ha, hc⟩ := h.2 hp; ⟨b, o, ha, fun i hi => let ⟨a', c, h1, h2⟩ := hc i hi; ⟨a', c, cell_later hb h1, h2.later hb⟩⟩⟩

/-- All texts are strings. -/
def Strs (len : Nat) (gs : List (List Value)) : Prop := ∀ i, i < len → ∀ j, j < (gs.getD i []).length → ∃ s, (gs.getD i []).getD j .nilIface = .string s

/-- What the bound on the total length tells. -/
def Smalls (len : Nat) (gs : List (List Value)) : Prop := ∀ i, i < len → (gs.getD i []).length ≤ 1048576 ∧ ∀ j, j < (gs.getD i []).length → Small ((gs.getD i []).getD j .nilIface)

set_option maxRecDepth 100000 in
set_option maxHeartbeats 400000 in
theorem bytes21 (a : Option Addr) (len cap : Nat) (gs : List (List Value)) (am : Option Addr) (lm cm : Nat) (w : World) (h : IsGroups w a len gs) (hs : Strs len gs) (hm : len ≤ maxLen) (hml : ∀ i, i < len → (gs.getD i []).length ≤ maxLen) (hlm : lm ≤ maxLen) :
    Calls Try.prog 21 #[.slice a len cap, .slice am lm cm] w (Answers w (Smalls len gs)) := by
  unfold maxLen at hm hlm
  have HR : Hid (IsGroups w a len gs) := h
  have HS : Hid (Strs len gs) := hs
  have HML : Hid (∀ i, i < len → (gs.getD i []).length ≤ maxLen) := hml
  clear h hs hml
  by_cases hbig : len ≤ 1048576
  · go_enter Try.func21, Try.ntmps21
    go_wp2
    go_loop [5, 6] (fun z i => ∃ (k : Nat) (q : Int), k ≤ len ∧ i = .int .i64 k ∧ z = .int .i64 q ∧ 0 ≤ q ∧ q ≤ 1048576 ∧ Hid (Smalls k gs)) (fun _ i => len - (intOf i).toNat)
    case atStart => exact ⟨0, _, Nat.zero_le _, rfl, rfl, by omega, by omega, fun _ hi => absurd hi (Nat.not_lt_zero _)⟩
    case round =>
      obtain ⟨k, q, hk, rfl, rfl, hq0, hq1, hsm⟩ := hrel
      by_cases hlt : k < len
      · obtain ⟨b, o, rfl, hc⟩ := HR.out.2 (by omega)
        obtain ⟨a', c', hck, hrow⟩ := hc k hlt
        have hll := HML.out k hlt
        unfold maxLen at hll
        have hst := HS.out k hlt
        generalize hgk : gs.getD k [] = grp at *
        have HG : Hid (gs.getD k [] = grp) := hgk
        have HROW : Hid (IsRow w a' grp.length grp) := hrow
        have HST : Hid (∀ j, j < grp.length → ∃ s, grp.getD j .nilIface = .string s) := hst
        generalize hlg : grp.length = lg at *
        have HLG : Hid (grp.length = lg) := hlg
        clear hc hgk hrow hst hlg
        by_cases hl1 : lg ≤ 1048576
        · by_cases hl2 : q + (lg : Int) ≤ 1048576
          · go_wp2_with fail
            go_loop [5, 7] (fun z i => ∃ (j : Nat) (q : Int), j ≤ lg ∧ i = .int .i64 j ∧ z = .int .i64 q ∧ 0 ≤ q ∧ q ≤ 1048576 ∧ Hid (∀ i, i < j → Small (grp.getD i .nilIface))) (fun _ i => lg - (intOf i).toNat)
            case atStart => exact ⟨0, _, Nat.zero_le _, rfl, rfl, by omega, by omega, fun _ hi => absurd hi (Nat.not_lt_zero _)⟩
            case round =>
              obtain ⟨j, q2, hj, rfl, rfl, hq20, hq21, hsj⟩ := hrel
              by_cases hltj : j < lg
              · obtain ⟨b2, o2, rfl, hc2⟩ := HROW.out.2 (by omega)
                have hck2 := hc2 j hltj
                obtain ⟨t, e⟩ := HST.out j hltj
                rw [e] at hck2
                have HE : Hid (grp.getD j .nilIface = .string t) := e
                clear hc2 e
                by_cases ht1 : t.size ≤ 1048576
                · by_cases ht2 : q2 + (t.size : Int) ≤ 1048576
                  · go_wp2_with fail
                    go_round
                    case rel =>
                      refine ⟨j + 1, _, by omega, by go_num, rfl, by omega, by omega, fun i hi => ?_⟩
                      by_cases e : i = j
                      · subst e
                        exact ⟨t, HE.out, ht1⟩
                      · exact hsj.out i (by omega)
                    case measure => simp [intOf]; omega
                  · go_wp2_with fail
                    go_ret
                    exact ⟨_, rfl, rfl, fun h => by cases h⟩
                · go_wp2_with fail
                  go_ret
                  exact ⟨_, rfl, rfl, fun h => by cases h⟩
              · have hall : Hid (Smalls (k + 1) gs) := by
                  intro i hi
                  by_cases e : i = k
                  · subst e
                    rw [HG.out, HLG.out]
                    exact ⟨hl1, fun j' hj' => hsj.out j' (by omega)⟩
                  · exact hsm.out i (by omega)
                go_wp2_with fail
                go_round
                case rel => exact ⟨k + 1, _, by omega, by go_num, rfl, by omega, by omega, hall⟩
                case measure => simp [intOf]; omega
          · go_wp2_with fail
            go_ret
            exact ⟨_, rfl, rfl, fun h => by cases h⟩
        · go_wp2_with fail
          go_ret
          exact ⟨_, rfl, rfl, fun h => by cases h⟩
      · have hall : Hid (Smalls len gs) := fun i hi => hsm.out i (by omega)
        go_wp2
        all_goals
          go_ret
          exact ⟨_, rfl, rfl, fun _ => hall.out⟩
  · go_enter Try.func21, Try.ntmps21
    go_wp2
    go_ret
    exact ⟨_, rfl, rfl, fun h => by cases h⟩
end Go.Proofs.Qxb6605765a
