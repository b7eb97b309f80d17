import Derived.Test.Qxb6605765aTwo
import Derived.Test.Qxb6605765aMarkWalk
import Derived.Deep.QuietTactic
import Derived.BigQuiet
import Derived.WalkSmall
namespace Go.Proofs.Qxb6605765a
open Go.RowKit

set_option maxRecDepth 100000 in
theorem flat_out (a : Option Addr) (len cap : Nat) (xs : List Value) (am : Option Addr) (lm cm : Nat) (w : World) (h : IsRow w a len xs) (hs : ∀ i, i < len → ∃ s, xs.getD i .nilIface = .string s) (hm : len ≤ maxLen) (hlm : lm ≤ maxLen)
    (ho : 65536 < len ∨ (len ≤ 65536 ∧ 65536 < lm)) :
    Calls Try.prog 5 #[.slice a len cap, .slice am lm cm] w (Done w) := by
  have H : Hid (Calls Try.prog 17 #[.slice a len cap, .slice am lm cm] w (Answers w (∀ i, i < len → Small (xs.getD i .nilIface)))) := bytes17 a len cap xs am lm cm w h hs hm hlm
  clear h hs
  unfold maxLen at hm hlm
  rcases ho with h1 | ⟨h1, h2⟩
  all_goals
    go_enter Try.func5, Try.ntmps5
    go_wp2_with fail
    refine H.out.mono ?_
    rintro e w1 ⟨bv, rfl, hw1, -⟩
    subst w1
    cases bv
    all_goals
      go_wp2_with fail
      go_ret
      exact ⟨rfl, Below.refl _ _⟩

theorem own_row {w : World} {B : Nat} {e : TypeId} {v : Value} {n : Nat} {xs : List Value} (h : w.ownsRow B e 1 v n xs) : ∃ a c, v = .slice a n c ∧ IsRow w a n xs := by
  have hl := own_len h
  rcases own_split h with ⟨rfl, rfl, rfl⟩ | ⟨g, c, rfl, hc⟩
  · exact ⟨none, 0, rfl, rfl, fun h => by omega⟩
  · refine ⟨_, c, rfl, hl, fun hp => ⟨g, 0, rfl, fun i hi => ?_⟩⟩
    obtain ⟨g', c', e, _, _, hcs⟩ := own_some h hp
    simp only [Value.slice.injEq, Option.some.injEq, Addr.mk.injEq, and_true, true_and] at e
    rw [Nat.zero_add, e.1]
    exact hcs i _ hi

set_option maxRecDepth 100000 in
set_option maxHeartbeats 1000000 in
theorem flat_in (a : Option Addr) (len cap : Nat) (xs : List Value) (am : Option Addr) (lm cm : Nat) (ys : List Value) (w : World) (h : IsRow w a len xs) (hs : ∀ i, i < len → ∃ s, xs.getD i .nilIface = .string s)
    (hy : IsRow w am lm ys) (hys : ∀ i, i < lm → ∃ s, ys.getD i .nilIface = .bool s) (hm : len ≤ 65536) (hlm : lm ≤ 65536) :
    Calls Try.prog 5 #[.slice a len cap, .slice am lm cm] w (Done w) := by
  have H : Hid (Calls Try.prog 17 #[.slice a len cap, .slice am lm cm] w (Answers w (∀ i, i < len → Small (xs.getD i .nilIface)))) := bytes17 a len cap xs am lm cm w h hs (by unfold maxLen; omega) (by unfold maxLen; omega)
  have HK : Hid (Calls Try.prog 15 #[.slice a len cap] w fun e w' => ∃ sv, e = .returned sv ∧ w'.ownsRow w.heap.size 9 1 sv len xs ∧ Below w.heap.size w w') := clone_strings a len cap xs w h hs (by omega)
  have HKB : Hid (∀ wx, Below w.heap.size w wx → Calls Try.prog 18 #[.slice am lm cm] wx fun e w' => ∃ sv, e = .returned sv ∧ w'.ownsRow wx.heap.size 4 1 sv lm ys ∧ Below wx.heap.size wx w') := fun wx hb => clone_bools am lm cm ys wx (hy.later hb) hys (by omega)
  have HR : Hid (IsRow w a len xs) := h
  have HS : Hid (∀ i, i < len → ∃ s, xs.getD i .nilIface = .string s) := hs
  have HYS : Hid (∀ i, i < lm → ∃ s, ys.getD i .nilIface = .bool s) := hys
  clear h hs hy hys
  obtain ⟨i0, hi, hz0, hz1, hz2⟩ := info_parts info24
  have q27 : ∀ (w : World) (a : Option Addr) (n c n' c' : Nat), (binOp .neq 27 (.slice a n c) (.slice none n' c')).run Try.prog w = .ok (.bool (!a.isNone)) w := fun w a n c n' c' => run_neq_slice_nil_any w _ _ a n c n' c' Try.underlying27
  go_enter Try.func5, Try.ntmps5
  go_wp2_with fail
  refine H.out.mono ?_
  rintro e w1 ⟨bv, rfl, hw1, hsm⟩
  subst w1
  have HM : Hid (bv = true → ∀ i, i < len → Small (xs.getD i .nilIface)) := hsm
  clear H hsm
  cases bv
  · go_wp2_with fail
    go_ret
    exact ⟨rfl, Below.refl _ _⟩
  have HM2 : Hid (∀ i, i < len → Small (xs.getD i .nilIface)) := HM.out rfl
  clear HM
  go_wp2_with fail
  go_loop [5, 6] (fun z i => ∃ (k : Nat) (q : Int), k ≤ len ∧ i = .int .i64 k ∧ z = .int .i64 q ∧ 0 ≤ q ∧ q ≤ 1048576) (fun _ i => len - (intOf i).toNat)
  case atStart => exact ⟨0, _, Nat.zero_le _, rfl, rfl, by omega, by omega⟩
  case round =>
    obtain ⟨k, q, hk, rfl, rfl, hq0, hq1⟩ := hrel
    by_cases hlt : k < len
    · obtain ⟨b, o, rfl, hc⟩ := HR.out.2 (by omega)
      have hck := hc k hlt
      obtain ⟨t, e, htt⟩ := HM2.out k hlt
      rw [e] at hck
      clear hc e HK HKB
      by_cases hbig : 1048576 < q + (16 + (t.size : Int))
      · go_wp2_with fail
        go_ret
        exact ⟨rfl, Below.refl _ _⟩
      · go_wp2_with fail
        go_round
        case rel => exact ⟨k + 1, _, by omega, by go_num, rfl, by omega, by omega⟩
        case measure => simp [intOf]; omega
    · clear hq0 hq1
      go_wp2_with fail
      refine HK.out.mono ?_
      rintro e W1 ⟨sv, rfl, hown1, hbw1⟩
      obtain ⟨ax, cx, rfl, hrx⟩ := own_row hown1
      go_wp2_with fail
      refine (HKB.out W1 hbw1).mono ?_
      rintro e W ⟨sv, rfl, hown2, hbw2⟩
      obtain ⟨ay, cy, rfl, hry⟩ := own_row hown2
      have HRX : Hid (IsRow W ax len xs) := hrx.later hbw2
      have hbw : Below w.heap.size w W := hbw1.trans (hbw2.mono hbw1.size)
      have HF : Hid (∀ wx, Below W.heap.size W wx → ∀ i : Nat, i ≤ 65536 → Calls Try.prog 19 #[.slice ay lm cy, .int .i64 i] wx fun e w' => e = .returned (.bool (flagAt ys i)) ∧ w' = wx) := fun wx hb i hi => flag_any ay lm cy ys i wx (hry.later hb) HYS.out (by omega) (by omega)
      clear hown1 hown2 hrx hry hbw1 hbw2 HK HKB HYS
      go_wp2_with (first | (go_at_call 10; refine (parts_nil _).mono ?_; rintro e w1 ⟨rfl, hw1⟩; subst w1) | (at_make; refine wpList_make_full _ rfl (.tmp 53) (.tmp 53) 27 rfl W.heap.size 24 i0 .nilIface 1 Try.underlying27 hi hz0 hz1 _ _ _ _ len rfl rfl rfl rfl ?_ ?_ ?_ ?_))
      · rw [hz2]; omega
      · unfold maxLen; omega
      · exact Nat.le_refl _
      intro w1 hown1 hgrow
      have hb1 : Below W.heap.size W w1 := (Below.refl _ _).grown hgrow (Nat.le_refl _) (by simp)
      have hs1 : W.heap.size < w1.heap.size := (hown1.lt _ rfl).2
      obtain ⟨ps, hown1⟩ : ∃ ps, w1.ownsRow W.heap.size 24 1 (.slice (some ⟨W.heap.size, 0, none⟩) len len) len ps := ⟨_, hown1⟩
      clear hgrow
      go_wp2_with (at_make; refine wpList_make_full _ rfl (.tmp 56) (.tmp 56) 27 rfl w1.heap.size 24 i0 .nilIface 1 Try.underlying27 hi hz0 hz1 _ _ _ _ len rfl rfl rfl rfl ?_ ?_ ?_ ?_)
      · rw [hz2]; omega
      · unfold maxLen; omega
      · exact Nat.le_refl _
      intro w2 hown2 hgrow
      have hb2 : Below w1.heap.size w1 w2 := (Below.refl _ _).grown hgrow (Nat.le_refl _) (by simp)
      have hs2 : w1.heap.size < w2.heap.size := (hown2.lt _ rfl).2
      obtain ⟨es, hown2⟩ : ∃ es, w2.ownsRow w1.heap.size 24 1 (.slice (some ⟨w1.heap.size, 0, none⟩) len len) len es := ⟨_, hown2⟩
      have HT : Hid (TwoOf W w2 W.heap.size w1.heap.size len xs ys 0 ps es) := ⟨own_later hown1 hb2, own_lower hown2 hb1.size, fun i hi => by omega, hb1.trans (hb2.mono hb1.size), hs1, hs2⟩
      clear hgrow hown1 hown2 hb1 hb2 hs1 hs2
      generalize w1.heap.size = E at *
      obtain ⟨P, HP⟩ : ∃ P, Hid (P = W.heap.size) := ⟨_, rfl⟩
      rw [← HP.out] at HT ⊢
      go_wp2_with fail
      go_loopw [9] (fun i wr => ∃ k : Nat, k ≤ len ∧ i = .int .i64 k ∧ ∃ ps es, TwoOf W wr P E len xs ys k ps es) (fun i _ => len - (intOf i).toNat)
      case atStart => exact ⟨0, Nat.zero_le _, rfl, ps, es, HT.out⟩
      case round =>
        obtain ⟨k2, hk2, rfl, ps2, es2, ht⟩ := hrel
        clear HT
        by_cases hlt2 : k2 < len
        · obtain ⟨s, e⟩ := HS.out k2 hlt2
          obtain ⟨bx, ox, rfl, hcx⟩ := HRX.out.2 (by omega)
          have hck : wr.cell? ⟨bx, ox + k2, none⟩ = some (.string s) := by
            have := hcx k2 hlt2
            rw [e] at this
            exact cell_later ht.2.2.2.1 this
          have HE : Hid (xs.getD k2 .nilIface = .string s) := e
          have HT2 : Hid (TwoOf W wr P E len xs ys k2 ps2 es2) := ht
          clear e hcx ht
          go_wp2_with fail
          refine (zznew_any _ _).mono ?_
          rintro e w3 ⟨rfl, hw3⟩
          have hb3 : Below wr.heap.size wr w3 := by rw [hw3]; exact (Below.refl _ _).alloc (Nat.le_refl _) _
          have hc3 : w3.cell? ⟨wr.heap.size, 0, none⟩ = some (.string s) := by rw [hw3]; simp
          clear hw3
          have F := two_first HT2.out hb3 (.iface 52 (.pointer (some ⟨wr.heap.size, 0, none⟩)))
          obtain ⟨uP, hcP, hfP⟩ := row_cell (own_later HT2.out.1 hb3) hlt2
          obtain ⟨uE, hcE, hfE⟩ := row_cell F.2.1 hlt2
          have HC3 : Hid (w3.cell? ⟨wr.heap.size, 0, none⟩ = some (.string s)) := hc3
          have HFL : Hid (Calls Try.prog 19 #[.slice ay lm cy, .int .i64 k2] (w3.setCell ⟨P, k2, none⟩ (.iface 52 (.pointer (some ⟨wr.heap.size, 0, none⟩)))) fun e w' => e = .returned (.bool (flagAt ys k2)) ∧ w' = w3.setCell ⟨P, k2, none⟩ (.iface 52 (.pointer (some ⟨wr.heap.size, 0, none⟩)))) := HF.out _ F.2.2 k2 (by omega)
          have HF2 : Hid ((w3.setCell ⟨P, k2, none⟩ (.iface 52 (.pointer (some ⟨wr.heap.size, 0, none⟩)))).ownsRow W.heap.size 24 1 (.slice (some ⟨E, 0, none⟩) len len) len es2) := F.2.1
          clear hc3 F
          cases hfl : flagAt ys k2 with
          | false =>
            rw [hfl] at HFL
            have HT3 := two_plain HT2.out hlt2 HE.out hb3 HC3.out hfl
            have HT4 : Hid (∃ ps es, TwoOf W _ P E len xs ys (k2 + 1) ps es) := ⟨_, _, HT3⟩
            clear HT3 hfl HT2 hb3 HF2
            go_wp2_with fail
            refine HFL.out.mono ?_
            rintro e w4 ⟨rfl, hw4⟩
            subst w4
            go_wp2_with fail
            go_roundw
            case rel => exact ⟨k2 + 1, by omega, by go_num, HT4.out⟩
            case measure => simp [intOf]; omega
          | true =>
            rw [hfl] at HFL
            have hsz : (w3.setCell ⟨P, k2, none⟩ (.iface 52 (.pointer (some ⟨wr.heap.size, 0, none⟩)))).heap.size = w3.heap.size := by simp [World.setCell]
            have HRT : Hid (Calls Try.prog 8 #[.iface 52 (.pointer (some ⟨wr.heap.size, 0, none⟩))] (w3.setCell ⟨P, k2, none⟩ (.iface 52 (.pointer (some ⟨wr.heap.size, 0, none⟩)))) fun e w' => e = .returned (.iface 43 (.pointer (some ⟨w3.heap.size, 0, none⟩))) ∧ (Below (w3.setCell ⟨P, k2, none⟩ (.iface 52 (.pointer (some ⟨wr.heap.size, 0, none⟩)))).heap.size (w3.setCell ⟨P, k2, none⟩ (.iface 52 (.pointer (some ⟨wr.heap.size, 0, none⟩)))) w' ∧ w'.cell? ⟨w3.heap.size, 0, none⟩ = some (.iface 52 (.pointer (some ⟨wr.heap.size, 0, none⟩))))) := by
              refine (retryable_some 52 (.pointer (some ⟨wr.heap.size, 0, none⟩)) _).mono ?_
              rintro e w' ⟨rfl, rfl⟩
              refine ⟨by rw [hsz], (Below.refl _ _).alloc (Nat.le_refl _) _, ?_⟩
              exact (World.cell?_alloc_at _ _ _ _ hsz.symm).trans rfl
            have HH : Hid (flagAt ys k2 = true) := hfl
            have HB3 : Hid (Below wr.heap.size wr w3) := hb3
            clear hfl hb3 hsz
            go_wp2_with fail
            refine HFL.out.mono ?_
            rintro e w4 ⟨rfl, hw4⟩
            subst w4
            clear HFL
            go_wp2_with fail
            refine HRT.out.mono ?_
            rintro e wm ⟨rfl, hbm, hcm⟩
            have HT4 : Hid (∃ ps es, TwoOf W _ P E len xs ys (k2 + 1) ps es) := ⟨_, _, two_marked HT2.out hlt2 HE.out HB3.out hbm HC3.out hcm HH.out⟩
            obtain ⟨uM, hcM, hfM⟩ := row_cell (own_later HF2.out hbm) hlt2
            clear HRT hbm hcm HT2 HF2 hcE hfE hcP hfP hck
            go_wp2_with fail
            go_roundw
            case rel => exact ⟨k2 + 1, by omega, by go_num, HT4.out⟩
            case measure => simp [intOf]; omega
        · obtain rfl : k2 = len := by omega
          have HT2 : Hid (TwoOf W wr P E k2 xs ys k2 ps2 es2) := ht
          have HL := two_live (own_len ht.2.1) ht.2.2.1
          have hcellsE : ∀ i, i < k2 → wr.cell? ⟨E, 0 + i, none⟩ = some (es2.getD i .nilIface) := by
            intro i hi
            have hl := own_len ht.2.1
            rw [Nat.zero_add, ht.2.1.cellAt i (by omega), List.getD_eq_getElem?_getD, List.getElem?_eq_getElem (by omega)]
            rfl
          by_cases h0 : k2 = 0
          · have HJ : Hid (Calls Try.prog 20 #[.slice (some ⟨E, 0, none⟩) k2 k2] wr fun e w' => e = .returned .nilIface ∧ w' = wr) :=
              zzjoinall_none E 0 k2 k2 es2 wr (own_len ht.2.1) (by unfold maxLen; omega) HL.2 hcellsE (by rw [HL.1]; exact List.eq_nil_of_length_eq_zero (by rw [own_len ht.2.1]; exact h0))
            have hbe : Below w.heap.size w wr := hbw.trans (ht.2.2.2.1.mono hbw.size)
            subst h0
            clear ht HL hcellsE HT2
            go_wp2_with (first | (go_at_call 20; refine HJ.out.mono ?_; rintro e w4 ⟨rfl, hw4⟩; subst w4) | (go_at_call 10; refine (parts_nil _).mono ?_; rintro e w1 ⟨rfl, hw1⟩; subst w1))
            refine wp_loop_rounds 1 ?_
            rw [rounds_succ]
            go_wp2_with fail
            go_ret
            exact ⟨rfl, hbe⟩
          · have HJ : Hid (Calls Try.prog 20 #[.slice (some ⟨E, 0, none⟩) k2 k2] wr fun e w' => ∃ v, e = .returned v ∧ IsJoin w' v (live es2) ∧ Below wr.heap.size wr w') :=
              zzjoinall_some E 0 k2 k2 es2 wr (own_len ht.2.1) (by omega) HL.2 hcellsE (by rw [HL.1]; intro e; have := own_len ht.2.1; rw [e] at this; simp at this; omega)
            have hbe : Below w.heap.size w wr := hbw.trans (ht.2.2.2.1.mono hbw.size)
            rw [HL.1] at HJ
            clear ht HL hcellsE
            go_wp2_with fail
            refine HJ.out.mono ?_
            rintro e w4 ⟨vj, rfl, hj, hb4⟩
            have HI4 : Hid (Items w4 (E + 1) xs ys k2 ps2 es2) := HT2.out.2.2.1.later hb4
            have HPC : Hid (PartsCall w4 vj es2) := parts_any 1 w4 vj es2 (two_parts (own_len HT2.out.2.1) HI4.out (by omega) hj) (by rw [own_len HT2.out.2.1]; omega)
            clear hj HJ
            go_wp2_with fail
            refine Calls.mono HPC.out ?_
            rintro e w5 ⟨sv, rfl, hown5, hb5⟩
            rw [own_len HT2.out.2.1] at hown5
            obtain ⟨g5, c5, rfl, -, -, hcs⟩ := own_some hown5 (by omega)
            have HC5 : Hid (∀ i, i < k2 → w5.cell? ⟨g5, i, none⟩ = some (es2.getD i .nilIface)) := fun i hi => hcs i _ hi
            have hb45 : Below wr.heap.size wr w5 := hb4.trans (hb5.mono hb4.size)
            clear HPC hcs hown5 HI4 hb4 hb5
            go_wp2_with fail
            obtain ⟨wo, rfl⟩ : ∃ wo : World, wo = wr := ⟨_, rfl⟩
            go_loopw [13] (fun i wr => ∃ j : Nat, j ≤ k2 ∧ i = .int .i64 j ∧ Below w5.heap.size w5 wr) (fun i _ => k2 - (intOf i).toNat)
            case atStart => exact ⟨0, Nat.zero_le _, rfl, Below.refl _ _⟩
            case round =>
              obtain ⟨j, hj, rfl, hb6⟩ := hrel
              by_cases hlt5 : j < k2
              · have hbo : Below wo.heap.size wo wr := hb45.trans (hb6.mono hb45.size)
                have hbW : Below W.heap.size W wr := HT2.out.2.2.2.1.trans (hbo.mono HT2.out.2.2.2.1.size)
                obtain ⟨s, e1, hit⟩ := (HT2.out.2.2.1.later hbo) j hlt5
                obtain ⟨bx, ox, rfl, hcx⟩ := HRX.out.2 (by omega)
                have hct : wr.cell? ⟨bx, ox + j, none⟩ = some (.string s) := by
                  have := hcx j hlt5
                  rw [e1] at this
                  exact cell_later hbW this
                have hcp : wr.cell? ⟨P, j, none⟩ = some (ps2.getD j .nilIface) := by
                  have hl := own_len HT2.out.1
                  rw [(own_later HT2.out.1 hbo).cellAt j (by omega), List.getD_eq_getElem?_getD, List.getElem?_eq_getElem (by omega)]
                  rfl
                have hce : wr.cell? ⟨E, j, none⟩ = some (es2.getD j .nilIface) := by
                  have hl := own_len HT2.out.2.1
                  rw [(own_later HT2.out.2.1 hbo).cellAt j (by omega), List.getD_eq_getElem?_getD, List.getElem?_eq_getElem (by omega)]
                  rfl
                have hcg : wr.cell? ⟨g5, j, none⟩ = some (es2.getD j .nilIface) := cell_later hb6 (HC5.out j hlt5)
                obtain ⟨b, -, ep, hcb, ht, hf⟩ := hit
                have HFN : Hid (∀ nn, Calls Try.prog 19 #[.slice ay lm cy, .int .i64 j] (wr.drewN nn) fun e w' => e = .returned (.bool (flagAt ys j)) ∧ w' = wr.drewN nn) := fun nn => HF.out _ (below_drewN hbW nn) j (by omega)
                rw [ep] at hcp ht hf
                cases hfl : flagAt ys j with
                | false =>
                  have ee := hf hfl
                  rw [ee] at hce hcg
                  rw [hfl] at HFN
                  have HL : Hid (∀ nn, Lay (wr.drewN nn) s 0 (.iface 52 (.pointer (some ⟨b, 0, none⟩)))) := fun nn => ⟨b, 0, rfl, hcb⟩
                  clear hf ht hfl ee ep e1 hcx hcb
                  go_wp2_with (go_at_call 11; refine (same52 _ _).mono ?_; rintro e w7 ⟨rfl, hw7⟩; subst w7)
                  go_quiet ((go_at_call 12; exact Calls.quiet_of_same (zztext _ _ 0 _ (HL.out _))))
                  go_wp2_with (first | (go_at_call 13; refine (zzunwrap52 _ _).mono ?_; rintro e w7 ⟨rfl, hw7⟩; subst w7) | (go_at_call 19; refine (HFN.out _).mono ?_; rintro e w7 ⟨rfl, hw7⟩; subst w7))
                  go_roundw
                  case rel => exact ⟨j + 1, by omega, by go_num, below_drewN hb6 _⟩
                  case measure => simp [intOf]; omega
                | true =>
                  obtain ⟨b', -, ee, hcb'⟩ := ht hfl
                  rw [ee] at hce hcg
                  rw [hfl] at HFN
                  have HL : Hid (∀ nn, Lay (wr.drewN nn) s 1 (.iface 43 (.pointer (some ⟨b', 0, none⟩)))) := fun nn => ⟨b', 0, _, rfl, hcb', b, 0, rfl, hcb⟩
                  have HCB : Hid (∀ nn, (wr.drewN nn).cell? ⟨b', 0, none⟩ = some (.iface 52 (.pointer (some ⟨b, 0, none⟩)))) := fun nn => hcb'
                  clear hf ht hfl ee ep e1 hcx hcb hcb'
                  go_wp2_with (go_at_call 11; refine (same43 _ _).mono ?_; rintro e w7 ⟨rfl, hw7⟩; subst w7)
                  go_quiet ((go_at_call 12; exact Calls.quiet_of_same (zztext _ _ 1 _ (HL.out _))))
                  go_wp2_with (first | (go_at_call 13; refine (zzunwrap43 _ _ _ _ (HCB.out _) (.inr ⟨_, _, rfl⟩)).mono ?_; rintro e w7 ⟨rfl, hw7⟩; subst w7) | (go_at_call 19; refine (HFN.out _).mono ?_; rintro e w7 ⟨rfl, hw7⟩; subst w7) | (go_at_call 11; refine (same52 _ _).mono ?_; rintro e w7 ⟨rfl, hw7⟩; subst w7))
                  go_roundw
                  case rel => exact ⟨j + 1, by omega, by go_num, below_drewN hb6 _⟩
                  case measure => simp [intOf]; omega
              · have hbend : Below w.heap.size w wr := hbe.trans ((hb45.trans (hb6.mono hb45.size)).mono hbe.size)
                go_wp2_with fail
                go_ret
                exact ⟨rfl, hbend⟩
end Go.Proofs.Qxb6605765a
