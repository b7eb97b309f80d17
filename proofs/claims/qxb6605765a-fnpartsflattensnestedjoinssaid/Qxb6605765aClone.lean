/-
  zzCloneStrings, zzCloneBools, by their contracts: a new row of the same elements.
-/
import Derived.Test.Qxb6605765aOwn
import Derived.Lib.SliceRun
namespace Go.Proofs.Qxb6605765a
open Go.RowKit

/-- A slice that came in: len elements, told by the list xs. -/
def IsRow (w : World) (a : Option Addr) (len : Nat) (xs : List Value) : Prop :=
  xs.length = len ∧ (0 < len → ∃ b o, a = some ⟨b, o, none⟩ ∧ ∀ i, i < len → w.cell? ⟨b, o + i, none⟩ = some (xs.getD i .nilIface))

theorem IsRow.later {w w' : World} (hb : Below w.heap.size w w') {a : Option Addr} {len : Nat} {xs : List Value} (h : IsRow w a len xs) : IsRow w' a len xs :=
  ⟨h.1, fun hp => let ⟨b, o, ha, hc⟩ := h.2 hp; ⟨b, o, ha, fun i hi => cell_later hb (hc i hi)⟩⟩

theorem info9 : (Try.prog.info? 9).map (fun i => (i.zero, i.size, i.bytes)) = some (some (.string ByteArray.empty), 1, 16) := by kernel_rfl
theorem info4 : (Try.prog.info? 4).map (fun i => (i.zero, i.size, i.bytes)) = some (some (.bool false), 1, 1) := by kernel_rfl

theorem set_upto {xs l : List Value} {k : Nat} (hk : k < l.length) (hl : xs.length = l.length) (h : ∀ i, i < k → xs[i]? = l[i]?) : ∀ i, i < k + 1 → (xs.set k (l.getD k .nilIface))[i]? = l[i]? := by
  intro i hi
  rw [List.getElem?_set]
  by_cases e : k = i
  · subst e
    rw [if_pos rfl, if_pos (by omega), List.getD_eq_getElem?_getD, List.getElem?_eq_getElem hk]
    rfl
  · rw [if_neg e]
    exact h i (by omega)

theorem clone_strings (a : Option Addr) (len cap : Nat) (xs : List Value) (w : World) (h : IsRow w a len xs) (hs : ∀ i, i < len → ∃ s, xs.getD i .nilIface = .string s) (hm : len ≤ 4194304) :
    Calls Try.prog 15 #[.slice a len cap] w fun e w' => ∃ sv, e = .returned sv ∧ w'.ownsRow w.heap.size 9 1 sv len xs ∧ Below w.heap.size w w' := by
  obtain ⟨i0, hi, hz0, hz1, hz2⟩ := info_parts info9
  have q31 : ∀ (w : World) (a : Option Addr) (n c n' c' : Nat), (binOp .eql 31 (.slice a n c) (.slice none n' c')).run Try.prog w = .ok (.bool a.isNone) w := fun w a n c n' c' => Lib.run_eql_slice_nil w _ _ a n c n' c' Try.underlying31
  obtain ⟨hxl, hrow⟩ := h
  cases a with
  | none =>
    have h0 : len = 0 := by
      rcases Nat.eq_zero_or_pos len with h | h
      · exact h
      · obtain ⟨b, o, ha, _⟩ := hrow h
        cases ha
    subst h0
    obtain rfl : xs = [] := List.eq_nil_of_length_eq_zero hxl
    clear hrow hs
    go_enter Try.func15, Try.ntmps15
    go_wp2
    go_ret
    exact ⟨_, rfl, World.ownsRow_nil _ _ _ _, Below.refl _ _⟩
  | some a =>
    have HR : Hid (0 < len → ∃ b o, some a = some ⟨b, o, none⟩ ∧ ∀ i, i < len → w.cell? ⟨b, o + i, none⟩ = some (xs.getD i .nilIface)) := hrow
    have HS : Hid (∀ i, i < len → ∃ s, xs.getD i .nilIface = .string s) := hs
    have HX : Hid (xs.length = len) := hxl
    clear hrow hs hxl
    go_enter Try.func15, Try.ntmps15
    go_wp2_with (at_make; refine wpList_make_full _ rfl _ _ 31 rfl w.heap.size 9 i0 (.string ByteArray.empty) 1 Try.underlying31 hi hz0 hz1 _ _ _ _ len rfl rfl rfl rfl ?_ ?_ ?_ ?_)
    · rw [hz2]; omega
    · unfold maxLen; omega
    · exact Nat.le_refl _
    intro w1 hown hgrow
    have hb1 : Below w.heap.size w w1 := (Below.refl _ _).grown hgrow (Nat.le_refl _) (by simp)
    obtain ⟨ys, hown⟩ : ∃ ys, w1.ownsRow w.heap.size 9 1 (.slice (some ⟨w.heap.size, 0, none⟩) len len) len ys := ⟨_, hown⟩
    clear hgrow
    go_wp2
    go_loopw [4] (fun i wr => ∃ k : Nat, k ≤ len ∧ i = .int .i64 k ∧ ∃ ys, wr.ownsRow w.heap.size 9 1 (.slice (some ⟨w.heap.size, 0, none⟩) len len) len ys ∧ (∀ i, i < k → ys[i]? = xs[i]?) ∧ Below w.heap.size w wr)
      (fun i _ => len - (intOf i).toNat)
    case atStart => exact ⟨0, Nat.zero_le _, rfl, ys, hown, fun i hi => absurd hi (Nat.not_lt_zero _), hb1⟩
    case round =>
      obtain ⟨k, hk, rfl, zs, hown2, hzs, hb⟩ := hrel
      clear hown
      have HZ : Hid (∀ i, i < k → zs[i]? = xs[i]?) := hzs
      clear hzs
      by_cases hlt : k < len
      · obtain ⟨b, o, ha, hc⟩ := HR.out (by omega)
        obtain rfl : a = ⟨b, o, none⟩ := by simpa using ha
        have hck : wr.cell? ⟨b, o + k, none⟩ = some (xs.getD k .nilIface) := by
          have := hc k hlt
          exact (hb.cell (World.block_lt_of_cell? _ _ this)).trans this
        obtain ⟨s, e⟩ := HS.out k hlt
        have R := hown2.stored k (xs.getD k .nilIface)
        have hset := set_upto (xs := zs) (l := xs) (k := k) (by rw [HX.out]; exact hlt) (by rw [HX.out]; exact own_len hown2) HZ.out
        rw [e] at hck R hset
        have hf := hown2.frozenAt k
        have hcell : ∃ u, wr.cell? ⟨w.heap.size, k, none⟩ = some u := by
          have := own_len hown2
          exact ⟨_, (hown2.cellAt k (by omega)).trans (List.getElem?_eq_getElem (by omega))⟩
        obtain ⟨u, hcu⟩ := hcell
        have hb2 : Below w.heap.size w (wr.setCell ⟨w.heap.size, k, none⟩ (.string s)) := hb.setCell (Nat.le_refl _) _
        have HE : Hid (∀ i, i < k + 1 → (zs.set k (.string s))[i]? = xs[i]?) := hset
        have HR1 : Hid ((wr.setCell ⟨w.heap.size, k, none⟩ (.string s)).ownsRow w.heap.size 9 1 (.slice (some ⟨w.heap.size, 0, none⟩) len len) len (zs.set k (.string s))) := R.1
        clear hset e ha hc R hown2
        go_wp2
        go_roundw
        case rel => exact ⟨k + 1, by omega, by go_num, _, HR1.out, HE.out, hb2⟩
        case measure => simp [intOf]; omega
      · have he : zs = xs := by
          have := own_len hown2
          apply List.ext_getElem?
          intro i
          by_cases hi : i < k
          · exact HZ.out i hi
          · rw [List.getElem?_eq_none (by omega), List.getElem?_eq_none (by rw [HX.out]; omega)]
        subst he
        go_wp2
        go_ret
        exact ⟨_, rfl, hown2, hb⟩
theorem clone_bools (a : Option Addr) (len cap : Nat) (xs : List Value) (w : World) (h : IsRow w a len xs) (hs : ∀ i, i < len → ∃ s, xs.getD i .nilIface = .bool s) (hm : len ≤ 4194304) :
    Calls Try.prog 18 #[.slice a len cap] w fun e w' => ∃ sv, e = .returned sv ∧ w'.ownsRow w.heap.size 4 1 sv len xs ∧ Below w.heap.size w w' := by
  obtain ⟨i0, hi, hz0, hz1, hz2⟩ := info_parts info4
  have q35 : ∀ (w : World) (a : Option Addr) (n c n' c' : Nat), (binOp .eql 35 (.slice a n c) (.slice none n' c')).run Try.prog w = .ok (.bool a.isNone) w := fun w a n c n' c' => Lib.run_eql_slice_nil w _ _ a n c n' c' Try.underlying35
  obtain ⟨hxl, hrow⟩ := h
  cases a with
  | none =>
    have h0 : len = 0 := by
      rcases Nat.eq_zero_or_pos len with h | h
      · exact h
      · obtain ⟨b, o, ha, _⟩ := hrow h
        cases ha
    subst h0
    obtain rfl : xs = [] := List.eq_nil_of_length_eq_zero hxl
    clear hrow hs
    go_enter Try.func18, Try.ntmps18
    go_wp2
    go_ret
    exact ⟨_, rfl, World.ownsRow_nil _ _ _ _, Below.refl _ _⟩
  | some a =>
    have HR : Hid (0 < len → ∃ b o, some a = some ⟨b, o, none⟩ ∧ ∀ i, i < len → w.cell? ⟨b, o + i, none⟩ = some (xs.getD i .nilIface)) := hrow
    have HS : Hid (∀ i, i < len → ∃ s, xs.getD i .nilIface = .bool s) := hs
    have HX : Hid (xs.length = len) := hxl
    clear hrow hs hxl
    go_enter Try.func18, Try.ntmps18
    go_wp2_with (at_make; refine wpList_make_full _ rfl _ _ 35 rfl w.heap.size 4 i0 (.bool false) 1 Try.underlying35 hi hz0 hz1 _ _ _ _ len rfl rfl rfl rfl ?_ ?_ ?_ ?_)
    · rw [hz2]; omega
    · unfold maxLen; omega
    · exact Nat.le_refl _
    intro w1 hown hgrow
    have hb1 : Below w.heap.size w w1 := (Below.refl _ _).grown hgrow (Nat.le_refl _) (by simp)
    obtain ⟨ys, hown⟩ : ∃ ys, w1.ownsRow w.heap.size 4 1 (.slice (some ⟨w.heap.size, 0, none⟩) len len) len ys := ⟨_, hown⟩
    clear hgrow
    go_wp2
    go_loopw [4] (fun i wr => ∃ k : Nat, k ≤ len ∧ i = .int .i64 k ∧ ∃ ys, wr.ownsRow w.heap.size 4 1 (.slice (some ⟨w.heap.size, 0, none⟩) len len) len ys ∧ (∀ i, i < k → ys[i]? = xs[i]?) ∧ Below w.heap.size w wr)
      (fun i _ => len - (intOf i).toNat)
    case atStart => exact ⟨0, Nat.zero_le _, rfl, ys, hown, fun i hi => absurd hi (Nat.not_lt_zero _), hb1⟩
    case round =>
      obtain ⟨k, hk, rfl, zs, hown2, hzs, hb⟩ := hrel
      clear hown
      have HZ : Hid (∀ i, i < k → zs[i]? = xs[i]?) := hzs
      clear hzs
      by_cases hlt : k < len
      · obtain ⟨b, o, ha, hc⟩ := HR.out (by omega)
        obtain rfl : a = ⟨b, o, none⟩ := by simpa using ha
        have hck : wr.cell? ⟨b, o + k, none⟩ = some (xs.getD k .nilIface) := by
          have := hc k hlt
          exact (hb.cell (World.block_lt_of_cell? _ _ this)).trans this
        obtain ⟨s, e⟩ := HS.out k hlt
        have R := hown2.stored k (xs.getD k .nilIface)
        have hset := set_upto (xs := zs) (l := xs) (k := k) (by rw [HX.out]; exact hlt) (by rw [HX.out]; exact own_len hown2) HZ.out
        rw [e] at hck R hset
        have hf := hown2.frozenAt k
        have hcell : ∃ u, wr.cell? ⟨w.heap.size, k, none⟩ = some u := by
          have := own_len hown2
          exact ⟨_, (hown2.cellAt k (by omega)).trans (List.getElem?_eq_getElem (by omega))⟩
        obtain ⟨u, hcu⟩ := hcell
        have hb2 : Below w.heap.size w (wr.setCell ⟨w.heap.size, k, none⟩ (.bool s)) := hb.setCell (Nat.le_refl _) _
        have HE : Hid (∀ i, i < k + 1 → (zs.set k (.bool s))[i]? = xs[i]?) := hset
        have HR1 : Hid ((wr.setCell ⟨w.heap.size, k, none⟩ (.bool s)).ownsRow w.heap.size 4 1 (.slice (some ⟨w.heap.size, 0, none⟩) len len) len (zs.set k (.bool s))) := R.1
        clear hset e ha hc R hown2
        go_wp2
        go_roundw
        case rel => exact ⟨k + 1, by omega, by go_num, _, HR1.out, HE.out, hb2⟩
        case measure => simp [intOf]; omega
      · have he : zs = xs := by
          have := own_len hown2
          apply List.ext_getElem?
          intro i
          by_cases hi : i < k
          · exact HZ.out i hi
          · rw [List.getElem?_eq_none (by omega), List.getElem?_eq_none (by rw [HX.out]; omega)]
        subst he
        go_wp2
        go_ret
        exact ⟨_, rfl, hown2, hb⟩
end Go.Proofs.Qxb6605765a
