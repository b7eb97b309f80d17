/-
  zzCloneGroups, by its contract.
-/
import Derived.Test.Qxb6605765aGroups
import Derived.Test.Qxb6605765aTwo
namespace Go.Proofs.Qxb6605765a
open Go.RowKit

/-- v is a slice over a row of its own, behind block H, that holds ys. -/
def Inner (w : World) (H : Nat) (v : Value) (ys : List Value) : Prop :=
  ∃ a c, v = .slice a ys.length c ∧ (0 < ys.length → ∃ b, a = some ⟨b, 0, none⟩ ∧ H < b ∧ ∀ j, j < ys.length → w.cell? ⟨b, j, none⟩ = some (ys.getD j .nilIface))

theorem Inner.kept {w w' : World} {H : Nat} (hc : ∀ b o, H < b → b < w.heap.size → w'.cell? ⟨b, o, none⟩ = w.cell? ⟨b, o, none⟩) {v : Value} {ys : List Value} (h : Inner w H v ys) : Inner w' H v ys := by
  obtain ⟨a, c, e, hr⟩ := h
  refine ⟨a, c, e, fun hp => ?_⟩
  obtain ⟨b, ha, hb, hcs⟩ := hr hp
  exact ⟨b, ha, hb, fun j hj => by have h1 := hcs j hj; rw [hc b j hb (World.block_lt_of_cell? _ _ h1)]; exact h1⟩

theorem inner_of_own {w : World} {H B : Nat} {v : Value} {ys : List Value} (h : w.ownsRow B 9 1 v ys.length ys) (hB : H < B) : Inner w H v ys := by
  by_cases hp : 0 < ys.length
  · obtain ⟨g, c, e, hg, _, hcs⟩ := own_some h hp
    exact ⟨_, c, e, fun _ => ⟨g, rfl, by omega, fun j hj => hcs j _ hj⟩⟩
  · obtain ⟨a, c, e⟩ := own_form h
    exact ⟨a, c, e, fun h' => absurd h' hp⟩

theorem info31 : (Try.prog.info? 31).map (fun i => (i.zero, i.size, i.bytes)) = some (some (.slice none 0 0), 1, 24) := by kernel_rfl

/-- What the loop holds: the outer row at H, filled as far as k. -/
def Filled (w wr : World) (H len : Nat) (gs : List (List Value)) (k : Nat) (zs : List Value) : Prop :=
  wr.ownsRow w.heap.size 31 1 (.slice (some ⟨H, 0, none⟩) len len) len zs ∧ (∀ i, i < k → Inner wr H (zs.getD i .nilIface) (gs.getD i [])) ∧ Below w.heap.size w wr ∧ H < wr.heap.size ∧ w.heap.size ≤ H

theorem filled_step {w wr w1 : World} {H len k : Nat} {gs : List (List Value)} {zs : List Value} {sv : Value} (h : Filled w wr H len gs k zs) (hk : k < len) (hown : w1.ownsRow wr.heap.size 9 1 sv (gs.getD k []).length (gs.getD k [])) (hb : Below wr.heap.size wr w1) :
    Filled w (w1.setCell ⟨H, k, none⟩ sv) H len gs (k + 1) (zs.set k sv) := by
  obtain ⟨h1, h2, h3, h4, h5⟩ := h
  have R := (own_later h1 hb).stored k sv
  have hl := own_len h1
  have hs1 := hb.size
  refine ⟨R.1, fun i hi => ?_, (h3.trans (hb.mono h3.size)).setCell h5 _, by simp [World.setCell]; omega, h5⟩
  by_cases e : i = k
  · subst e
    rw [getD_set_at _ _ _ _ (by omega)]
    exact (inner_of_own hown h4).kept fun b o hb' _ => cell_set_other (by simp; omega)
  · rw [getD_set_other _ _ _ _ _ (fun h => e h.symm)]
    refine ((h2 i (by omega)).kept fun b o hb' hl' => hb.cell hl').kept fun b o hb' _ => cell_set_other (by simp; omega)

set_option maxHeartbeats 400000 in
theorem clone_groups (a : Option Addr) (len cap : Nat) (gs : List (List Value)) (w : World) (h : IsGroups w a len gs) (hs : Strs len gs) (hm : len ≤ 4194304) (hml : ∀ i, i < len → (gs.getD i []).length ≤ 4194304) :
    Calls Try.prog 22 #[.slice a len cap] w fun e w' => ∃ a' c', e = .returned (.slice a' len c') ∧ IsGroups w' a' len gs ∧ Below w.heap.size w w' := by
  obtain ⟨i0, hi, hz0, hz1, hz2⟩ := info_parts info31
  have q40 : ∀ (w : World) (a : Option Addr) (n c n' c' : Nat), (binOp .eql 40 (.slice a n c) (.slice none n' c')).run Try.prog w = .ok (.bool a.isNone) w := fun w a n c n' c' => Lib.run_eql_slice_nil w _ _ a n c n' c' Try.underlying40
  have HR : Hid (IsGroups w a len gs) := h
  have HS : Hid (Strs len gs) := hs
  have HML : Hid (∀ i, i < len → (gs.getD i []).length ≤ 4194304) := hml
  clear h hs hml
  cases a with
  | none =>
    have h0 : len = 0 := by
      rcases Nat.eq_zero_or_pos len with h | h
      · exact h
      · obtain ⟨b, o, ha, _⟩ := HR.out.2 h
        cases ha
    subst h0
    go_enter Try.func22, Try.ntmps22
    go_wp2
    go_ret
    exact ⟨none, 0, rfl, ⟨HR.out.1, fun h => by omega⟩, Below.refl _ _⟩
  | some a =>
    go_enter Try.func22, Try.ntmps22
    go_wp2_with (at_make; refine wpList_make_full _ rfl _ _ 40 rfl w.heap.size 31 i0 (.slice none 0 0) 1 Try.underlying40 hi hz0 hz1 _ _ _ _ len rfl rfl rfl rfl ?_ ?_ ?_ ?_)
    · rw [hz2]; omega
    · unfold maxLen; omega
    · exact Nat.le_refl _
    intro w1 hown hgrow
    have hb1 : Below w.heap.size w w1 := (Below.refl _ _).grown hgrow (Nat.le_refl _) (by simp)
    have hs1 : w.heap.size < w1.heap.size := (hown.lt _ rfl).2
    obtain ⟨ys, hown⟩ : ∃ ys, w1.ownsRow w.heap.size 31 1 (.slice (some ⟨w.heap.size, 0, none⟩) len len) len ys := ⟨_, hown⟩
    have HF : Hid (Filled w w1 w.heap.size len gs 0 ys) := ⟨hown, fun i hi => absurd hi (Nat.not_lt_zero _), hb1, hs1, Nat.le_refl _⟩
    clear hgrow hown hb1 hs1
    go_wp2
    go_loopw [4] (fun i wr => ∃ k : Nat, k ≤ len ∧ i = .int .i64 k ∧ ∃ zs, Filled w wr w.heap.size len gs k zs) (fun i _ => len - (intOf i).toNat)
    case atStart => exact ⟨0, Nat.zero_le _, rfl, ys, HF.out⟩
    case round =>
      obtain ⟨k, hk, rfl, zs, hfl⟩ := hrel
      clear HF
      by_cases hlt : k < len
      · obtain ⟨b, o, ha, hc⟩ := HR.out.2 (by omega)
        obtain rfl : a = ⟨b, o, none⟩ := by simpa using ha
        obtain ⟨a', c', hck, hrow⟩ := hc k hlt
        have hck' := cell_later hfl.2.2.1 hck
        have HCL : Hid (Calls Try.prog 15 #[.slice a' (gs.getD k []).length c'] wr fun e w' => ∃ sv, e = .returned sv ∧ w'.ownsRow wr.heap.size 9 1 sv (gs.getD k []).length (gs.getD k []) ∧ Below wr.heap.size wr w') :=
          clone_strings a' _ c' _ wr (hrow.later hfl.2.2.1) (HS.out k hlt) (HML.out k hlt)
        have HFL : Hid (Filled w wr w.heap.size len gs k zs) := hfl
        clear ha hc hck hrow hfl
        generalize hlg : (gs.getD k []).length = lg at *
        have HLG : Hid ((gs.getD k []).length = lg) := hlg
        clear hlg
        go_wp2_with fail
        refine HCL.out.mono ?_
        rintro e w2 ⟨sv, rfl, hown, hb2⟩
        rw [← HLG.out] at hown
        have HN : Hid (Filled w (w2.setCell ⟨w.heap.size, k, none⟩ sv) w.heap.size len gs (k + 1) (zs.set k sv)) := filled_step HFL.out hlt hown hb2
        obtain ⟨sa, sc, hsv⟩ := own_form hown
        have hf2 := (own_later HFL.out.1 hb2).frozenAt k
        have hcell : ∃ u, w2.cell? ⟨w.heap.size, k, none⟩ = some u := by
          have := own_len HFL.out.1
          exact ⟨_, ((own_later HFL.out.1 hb2).cellAt k (by omega)).trans (List.getElem?_eq_getElem (by omega))⟩
        obtain ⟨u, hcu⟩ := hcell
        subst hsv
        clear hown hb2 HCL HFL
        go_wp2_with fail
        go_roundw
        case rel => exact ⟨k + 1, by omega, by go_num, _, HN.out⟩
        case measure => simp [intOf]; omega
      · obtain rfl : k = len := by omega
        have HFL : Hid (Filled w wr w.heap.size k gs k zs) := hfl
        clear hfl
        go_wp2_with fail
        go_ret
        refine ⟨_, _, rfl, ⟨HR.out.1, fun hp => ⟨w.heap.size, 0, rfl, fun i hi => ?_⟩⟩, HFL.out.2.2.1⟩
        obtain ⟨a2, c2, e2, hr2⟩ := HFL.out.2.1 i hi
        have hl := own_len HFL.out.1
        refine ⟨a2, c2, ?_, rfl, fun hp2 => ?_⟩
        · rw [Nat.zero_add, HFL.out.1.cellAt i (by omega), ← e2, List.getD_eq_getElem?_getD, List.getElem?_eq_getElem (by omega)]
          rfl
        · obtain ⟨b2, ea, _, hcs⟩ := hr2 hp2
          exact ⟨b2, 0, ea, fun j hj => by rw [Nat.zero_add]; exact hcs j hj⟩
end Go.Proofs.Qxb6605765a
