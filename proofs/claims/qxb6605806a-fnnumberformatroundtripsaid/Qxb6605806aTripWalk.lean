/-
  The walk of FnNumberFormatRoundTrip.
-/
import Derived.Test.Qxb6605806aTrip
namespace Go.Proofs.Qxb6605806a
open Go.RowKit

theorem info5 : (Try.prog.info? 5).map (fun i => (i.zero, i.size, i.bytes)) = some (some (.int .u8 0), 1, 1) := by kernel_rfl

theorem trip_out (n z : Int) (w : World) (h : n < 0 ∨ (0 ≤ n ∧ z < 0) ∨ (0 ≤ n ∧ 0 ≤ z ∧ 4096 < z)) :
    Calls Try.prog 4 #[.int .i64 n, .int .i64 z] w fun e w' => e = .returned (.bool true) ∧ Below w.heap.size w w' := by
  rcases h with h | ⟨h, h2⟩ | ⟨h, h2, h3⟩
  all_goals
    go_enter Try.func4, Try.ntmps4
    go_wp2
    go_ret
    exact ⟨rfl, Below.refl _ _⟩

theorem row_len {w : World} {B : Nat} {e : TypeId} {v : Value} {n : Nat} {xs : List Value} (h : w.ownsRow B e 1 v n xs) : xs.length = n := by simpa using h.1

/-- zzUtoa once more, its string a letter. -/
theorem utoa_str (u : Nat) (w : World) (h1 : u ≤ 9223372036854775807) :
    Calls Try.prog 11 #[.int .u64 u] w fun e w' => ∃ B : ByteArray, e = .returned (.string B) ∧ Hid (DigL B.data.toList ∧ pos B.data.toList = (u : Int) ∧ B.data.toList.length ≤ 24) ∧ B.size ≤ 24 ∧ Below w.heap.size w w' := by
  refine (utoa_any u w h1).mono ?_
  rintro e w' ⟨ds, rfl, h2, h3, h4, h5⟩
  exact ⟨⟨ds.toArray⟩, rfl, ⟨h2, h3, h4⟩, by simpa [ByteArray.size] using h4, h5⟩

set_option maxRecDepth 100000 in
theorem trip_in (n z : Nat) (w : World) (hn : n ≤ 9223372036854775807) (hz : z ≤ 4096) :
    Calls Try.prog 4 #[.int .i64 n, .int .i64 z] w fun e w' => e = .returned (.bool true) ∧ Below w.heap.size w w' := by
  obtain ⟨i0, hi, hz0, hz1, hz2⟩ := info_parts info5
  go_enter Try.func4, Try.ntmps4
  go_wp2_with (at_make; refine wpList_make_full _ rfl _ _ 24 rfl w.heap.size 5 i0 (.int .u8 0) 1 Try.underlying24 hi hz0 hz1 _ _ _ _ z rfl rfl rfl rfl ?_ ?_ ?_ ?_)
  · rw [hz2]; omega
  · unfold maxLen; omega
  · exact Nat.le_refl _
  intro w1 hown hgrow
  have hb1 : Below w.heap.size w w1 := (Below.refl _ _).grown hgrow (Nat.le_refl _) (by simp)
  obtain ⟨ys, hown⟩ : ∃ ys, w1.ownsRow w.heap.size 5 1 (.slice (some ⟨w.heap.size, 0, none⟩) z z) z ys := ⟨_, hown⟩
  clear hgrow
  go_wp2_with fail
  go_loopw [6] (fun i wr => ∃ k : Nat, k ≤ z ∧ i = .int .i64 k ∧ ∃ ys, wr.ownsRow w.heap.size 5 1 (.slice (some ⟨w.heap.size, 0, none⟩) z z) z ys ∧ (∀ i, i < k → ys[i]? = some (.int .u8 48)) ∧ Below w.heap.size w wr) (fun i _ => z - (intOf i).toNat)
  case atStart => exact ⟨0, Nat.zero_le _, rfl, ys, hown, fun i hi => absurd hi (Nat.not_lt_zero _), hb1⟩
  case round =>
    obtain ⟨k, hk, rfl, zs, hown2, hzs, hb⟩ := hrel
    clear hown
    by_cases hlt : k < z
    · have R := hown2.stored k (.int .u8 48)
      have hf := hown2.frozenAt k
      have hl := row_len hown2
      obtain ⟨u, hcu⟩ : ∃ u, wr.cell? ⟨w.heap.size, k, none⟩ = some u := ⟨_, (hown2.cellAt k (by omega)).trans (List.getElem?_eq_getElem (by omega))⟩
      have HE : Hid (∀ i, i < k + 1 → (zs.set k (.int .u8 48))[i]? = some (.int .u8 48)) := by
        intro i hi
        rw [List.getElem?_set]
        by_cases e : k = i
        · rw [if_pos e, if_pos (by omega)]
        · rw [if_neg e]
          exact hzs i (by omega)
      have HR1 : Hid ((wr.setCell ⟨w.heap.size, k, none⟩ (.int .u8 48)).ownsRow w.heap.size 5 1 (.slice (some ⟨w.heap.size, 0, none⟩) z z) z (zs.set k (.int .u8 48))) := R.1
      have hb2 : Below w.heap.size w (wr.setCell ⟨w.heap.size, k, none⟩ (.int .u8 48)) := hb.setCell (Nat.le_refl _) _
      clear R hown2 hzs hl
      go_wp2_with fail
      go_roundw
      case rel => exact ⟨k + 1, by omega, by go_num, _, HR1.out, HE.out, hb2⟩
      case measure => simp [intOf]; omega
    · have hcell : ∀ j (hj : j < (List.replicate z (48 : UInt8)).length), wr.cell? ((⟨w.heap.size, 0, none⟩ : Addr).add j) = some (.int .u8 (((List.replicate z (48 : UInt8))[j]).toNat : Int)) := by
        intro j hj
        have hj' : j < z := by simpa using hj
        have e := hzs j (by omega)
        have h3 := hown2.cells (g := w.heap.size) rfl j _ e
        rw [h3]
        simp
      have HCV : Hid (∀ wx, Below wr.heap.size wr wx → (convert 24 9 (.slice (some ⟨w.heap.size, 0, none⟩) z z)).run Try.prog wx = .ok (.string ⟨(List.replicate z (48 : UInt8)).toArray⟩) wx) := by
        intro wx hbx
        have := run_convert_bytes_back (P := Try.prog) wx 24 9 5 ⟨w.heap.size, 0, none⟩ z (List.replicate z 48) Try.underlying24 Try.underlying5 Try.underlying9 (fun j hj => cell_later hbx (hcell j hj))
        rw [List.length_replicate] at this
        exact this
      obtain ⟨A, hA⟩ : ∃ A : ByteArray, A = ⟨(List.replicate z (48 : UInt8)).toArray⟩ := ⟨_, rfl⟩
      rw [← hA] at HCV
      have HA : Hid (A.data.toList = List.replicate z 48) := show _ = _ by rw [hA]
      have hAs : A.size ≤ 4096 := by rw [hA]; simp [ByteArray.size]; omega
      have hcv0 := HCV.out wr.drew (Below.refl _ _).drew
      clear hA hcell hzs hown2
      go_wp2_with fail
      have hwr : IntKind.u64.wrap (n : Int) = (n : Int) := by rw [IntKind.wrap_u64]; omega
      go_region_with (go_at_call 11; refine (utoa_str _ _ hn).mono ?_; rintro e w2 ⟨B, rfl, HB, hBs, hb2⟩; have hcv2 := HCV.out w2 ((Below.refl _ _).drew.trans hb2))
      all_goals
        have HM : Hid (Made A B n) := made A B z n hz HA.out HB.out.1 HB.out.2.1 HB.out.2.2
        have hsz : (A ++ B).size ≤ 4120 := HM.out.size
        have H1 : Hid (∀ wx, Calls Try.prog 10 #[.string (A ++ B)] wx fun e w' => e = .returned (.int .i64 n) ∧ w' = wx) := by
          intro wx
          have := zznumber_good (A ++ B) wx (by omega) HM.out.good
          rw [HM.out.val, wrap_in _ (by omega) (by omega)] at this
          exact this
        have H2 : Hid (∀ wx, Calls Try.prog 10 #[.string (({ data := #[43] } : ByteArray) ++ (A ++ B))] wx fun e w' => e = .returned (.int .i64 (-1)) ∧ w' = wx) :=
          fun wx => zznumber_bad _ wx (by rw [ByteArray.size_append]; simp only [ByteArray.size, List.size_toArray, List.length_cons, List.length_nil] at *; omega) HM.out.plus
        have H3 : Hid (∀ wx, Calls Try.prog 10 #[.string ((A ++ B) ++ ({ data := #[32] } : ByteArray))] wx fun e w' => e = .returned (.int .i64 (-1)) ∧ w' = wx) :=
          fun wx => zznumber_bad _ wx (by rw [ByteArray.size_append]; simp only [ByteArray.size, List.size_toArray, List.length_cons, List.length_nil] at *; omega) HM.out.blank
        have hbe : Below w.heap.size w w2 := hb.trans (((Below.refl _ _).drew.trans hb2).mono hb.size)
        clear HM HB HA hcv0 hcv2 HCV hb2
        generalize A ++ B = S at *
        go_wp2_with fail
        refine (H1.out _).mono ?_
        rintro e w3 ⟨rfl, hw3⟩
        subst w3
        go_wp2_with fail
        refine (H2.out _).mono ?_
        rintro e w3 ⟨rfl, hw3⟩
        subst w3
        go_wp2_with fail
        refine (H3.out _).mono ?_
        rintro e w3 ⟨rfl, hw3⟩
        subst w3
        go_wp2_with fail
        go_ret
        exact ⟨rfl, hbe⟩
end Go.Proofs.Qxb6605806a
