/-
  errors.Join, by its contract.
-/
import Derived.Test.Qxb6605765aOwn
namespace Go.Proofs.Qxb6605765a
open Go.RowKit

theorem info24 : (Try.prog.info? 24).map (fun i => (i.zero, i.size, i.bytes)) = some (some .nilIface, 1, 16) := by kernel_rfl

/-- The first loop counts those that are not nil; none: nil comes back. -/
theorem join_none (b o n c : Nat) (vs : List Value) (w : World) (hn : vs.length = n) (hm : n ≤ maxLen) (hv : ∀ v ∈ vs, IsErr v)
    (hc : ∀ i, i < n → w.cell? ⟨b, o + i, none⟩ = some (vs.getD i .nilIface)) (h0 : live vs = []) :
    Calls Try.prog 25 #[.slice (some ⟨b, o, none⟩) n c] w fun e w' => e = .returned .nilIface ∧ w' = w := by
  unfold maxLen at hm
  go_enter Try.func25, Try.ntmps25
  go_wp2
  go_loop [3, 11] (fun m i => ∃ k : Nat, k ≤ n ∧ i = .int .i64 k ∧ m = .int .i64 ((live (vs.take k)).length : Nat)) (fun _ i => n - (intOf i).toNat)
  case atStart => exact ⟨0, Nat.zero_le _, rfl, rfl⟩
  case round =>
    obtain ⟨k, hk, rfl, rfl⟩ := hrel
    by_cases hlt : k < n
    · have hck := hc k hlt
      have hle := live_take_le vs k
      rcases hv (vs.getD k .nilIface) (by rw [List.getD_eq_getElem?_getD, List.getElem?_eq_getElem (by omega)]; simp) with e | ⟨t, x, e⟩
      · have hl := live_take_nil vs k (by omega) e
        rw [e] at hck
        clear hc hv e h0
        have HL : Hid (live (vs.take (k + 1)) = live (vs.take k)) := hl
        clear hl
        go_wp2
        go_round
        case rel => exact ⟨k + 1, by omega, by go_num, by rw [HL.out]⟩
        case measure => simp [intOf]; omega
      · have hl := live_take_some vs k (by omega) e
        rw [e] at hck
        clear hc hv e h0
        have HL : Hid (live (vs.take (k + 1)) = live (vs.take k) ++ [.iface t x]) := hl
        clear hl
        go_wp2
        go_round
        case rel => exact ⟨k + 1, by omega, by go_num, by rw [HL.out, List.length_append]; go_num⟩
        case measure => simp [intOf]; omega
    · have e : live (vs.take k) = [] := by rw [List.take_of_length_le (by omega)]; exact h0
      have e0 : (((live (vs.take k)).length : Nat) : Int) = 0 := by rw [e]; rfl
      rw [e0]
      clear hc hv e e0 h0
      go_wp2
      go_ret
      exact ⟨rfl, rfl⟩

/-- Some are not nil: a new joined error of those. -/
theorem join_some (b o n c : Nat) (vs : List Value) (w : World) (hn : vs.length = n) (hm : n ≤ 4194304) (hv : ∀ v ∈ vs, IsErr v)
    (hc : ∀ i, i < n → w.cell? ⟨b, o + i, none⟩ = some (vs.getD i .nilIface)) (h0 : live vs ≠ []) :
    Calls Try.prog 25 #[.slice (some ⟨b, o, none⟩) n c] w fun e w' => ∃ v, e = .returned v ∧ IsJoin w' v (live vs) ∧ Below w.heap.size w w' := by
  obtain ⟨i0, hi, hz0, hz1, hz2⟩ := info_parts info24
  have hLn : (live vs).length ≤ n := by rw [← hn]; exact List.length_filter_le _ _
  have hLp : 0 < (live vs).length := List.length_pos_iff.2 h0
  go_enter Try.func25, Try.ntmps25
  go_wp2
  go_loop [3, 11] (fun m i => ∃ k : Nat, k ≤ n ∧ i = .int .i64 k ∧ m = .int .i64 ((live (vs.take k)).length : Nat)) (fun _ i => n - (intOf i).toNat)
  case atStart => exact ⟨0, Nat.zero_le _, rfl, rfl⟩
  case round =>
    obtain ⟨k, hk, rfl, rfl⟩ := hrel
    by_cases hlt : k < n
    · have hck := hc k hlt
      have hle := live_take_le vs k
      rcases hv (vs.getD k .nilIface) (by rw [List.getD_eq_getElem?_getD, List.getElem?_eq_getElem (by omega)]; simp) with e | ⟨t, x, e⟩
      · have hl := live_take_nil vs k (by omega) e
        rw [e] at hck
        clear hc hv e h0
        have HL : Hid (live (vs.take (k + 1)) = live (vs.take k)) := hl
        clear hl
        go_wp2
        go_round
        case rel => exact ⟨k + 1, by omega, by go_num, by rw [HL.out]⟩
        case measure => simp [intOf]; omega
      · have hl := live_take_some vs k (by omega) e
        rw [e] at hck
        clear hc hv e h0
        have HL : Hid (live (vs.take (k + 1)) = live (vs.take k) ++ [.iface t x]) := hl
        clear hl
        go_wp2
        go_round
        case rel => exact ⟨k + 1, by omega, by go_num, by rw [HL.out, List.length_append]; go_num⟩
        case measure => simp [intOf]; omega
    · have e : live (vs.take k) = live vs := by rw [List.take_of_length_le (by omega)]
      rw [e]
      obtain rfl : k = n := by omega
      clear e hlt hk
      have HC : Hid (∀ i, i < k → w.cell? ⟨b, o + i, none⟩ = some (vs.getD i .nilIface)) := hc
      have HV : Hid (∀ v ∈ vs, IsErr v) := hv
      have H0 : Hid (live vs ≠ []) := h0
      clear hc hv h0
      generalize hL : (live vs).length = L at *
      have HL : Hid ((live vs).length = L) := hL
      clear hL
      have hne : ((L : Int) == 0) = false := by simp; omega
      go_wp2_with (at_make; refine wpList_make_own _ rfl _ _ 27 rfl w.heap.size 24 i0 .nilIface 1 Try.underlying27 hi hz0 hz1 _ _ _ L rfl rfl rfl ?_ ?_ ?_ ?_)
      · omega
      · unfold maxLen; omega
      intro w1 hown hgrow
      have hb1 : Below w.heap.size w w1 := (Below.refl _ _).grown hgrow (Nat.le_refl _) (by simp)
      have hw1 : w.heap.size < w1.heap.size := (hown.lt _ rfl).2
      clear hgrow
      go_wp2
      go_loopw [28] (fun i wr => ∃ j : Nat, j ≤ k ∧ i = .int .i64 j ∧ ∃ sv, wr.heap[w1.heap.size]? = some (.cells #[sv] 58) ∧ wr.ownsRow w.heap.size 24 1 sv (live (vs.take j)).length (live (vs.take j)) ∧ Below w.heap.size w wr)
        (fun i _ => k - (intOf i).toNat)
      case atStart => exact ⟨0, Nat.zero_le _, rfl, _, (heap_alloc_new w1 _), hown.alloc _, hb1.alloc hb1.size _⟩
      case round =>
        obtain ⟨j, hj, rfl, sv, hJ, hown2, hb⟩ := hrel
        clear hown
        by_cases hlt : j < k
        · have hck : wr.cell? ⟨b, o + j, none⟩ = some (vs.getD j .nilIface) := by
            have := HC.out j hlt
            exact (hb.cell (World.block_lt_of_cell? _ _ this)).trans this
          have hle := live_take_le vs j
          rcases HV.out (vs.getD j .nilIface) (by rw [List.getD_eq_getElem?_getD, List.getElem?_eq_getElem (by omega)]; simp) with e | ⟨t, x, e⟩
          · have hl := live_take_nil vs j (by omega) e
            rw [e] at hck
            clear e
            have HL2 : Hid (live (vs.take (j + 1)) = live (vs.take j)) := hl
            have HJ : Hid (wr.heap[w1.heap.size]? = some (.cells #[sv] 58)) := hJ
            clear hl hJ
            go_wp2
            go_roundw
            case rel => exact ⟨j + 1, by omega, by go_num, sv, HJ.out, by rw [HL2.out]; exact hown2, hb⟩
            case measure => simp [intOf]; omega
          · have hl := live_take_some vs j (by omega) e
            rw [e] at hck
            clear e
            have HL2 : Hid (live (vs.take (j + 1)) = live (vs.take j) ++ [.iface t x]) := hl
            clear hl
            obtain ⟨sa, sc, hsv⟩ := own_form hown2
            have hcj : wr.cell? ⟨w1.heap.size, 0, none⟩ = some (.slice sa (live (vs.take j)).length sc) := by rw [← hsv]; simp [World.cell?, hJ]
            subst hsv
            generalize hm0 : (live (vs.take j)).length = m at *
            have HM : Hid ((live (vs.take j)).length = m) := hm0
            have HJ : Hid (wr.heap[w1.heap.size]? = some (.cells #[.slice sa m sc] 58)) := hJ
            clear hm0 hJ
            go_wp2_with (at_builtin; refine wpList_append_own _ rfl (.tmp 38) (.tmp 40) 27 rfl w.heap.size 24 i0 .nilIface 1 16 Try.underlying27 hi hz0 hz1 hz2 rfl (by decide) _ m _ rfl (hown2.alloc _) ⟨wr.heap.size, 0, none⟩ 1 1 [.iface t x] rfl rfl ?_ ?_ ?_ ?_ ?_ ?_)
            · exact cell_one_new _ _ _
            · intro u hu
              simp at hu
              subst hu
              rfl
            · unfold maxLen; omega
            · omega
            · have := hb.size; simp; omega
            intro v' w2 hown' hgrow' hnn
            have R := join_round HJ.out (Nat.le_of_lt hw1) hown2 hb hown' hgrow'
            obtain ⟨sa', sc', hsv'⟩ := own_form hown'
            subst hsv'
            have c2 : w2.cell? ⟨w1.heap.size, 0, none⟩ = some (.slice sa m sc) := by simp [World.cell?, R.1]
            have f2 : w2.frozen? ⟨w1.heap.size, 0, none⟩ = false := frozen_of_row _ _ _ _ _ R.1
            have RH : Hid _ := R.2
            clear R hnn hown' hgrow' hown2 hck hcj
            go_wp2
            go_roundw
            case rel => exact ⟨j + 1, by omega, by go_num, _, RH.out.1, by rw [HL2.out, List.length_append, HM.out]; exact RH.out.2.1, RH.out.2.2⟩
            case measure => simp [intOf]; omega
        · have e : live (vs.take j) = live vs := by rw [List.take_of_length_le (by omega)]
          rw [e] at hown2
          have HJ : Hid (wr.heap[w1.heap.size]? = some (.cells #[sv] 58)) := hJ
          clear hJ e
          go_wp2
          go_ret
          refine ⟨_, rfl, ?_, hb⟩
          obtain ⟨g, c', rfl, _, hmx, hcs⟩ := own_some hown2 (by rw [HL.out]; exact hLp)
          exact ⟨w1.heap.size, g, c', rfl, by simp [World.cell?, HJ.out], hmx, fun i hi => hcs i _ hi⟩
end Go.Proofs.Qxb6605765a
