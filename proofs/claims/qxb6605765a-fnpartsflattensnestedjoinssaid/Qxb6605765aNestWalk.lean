import Derived.Test.Qxb6605765aAcc
import Derived.Test.Qxb6605765aFlatWalk
import Derived.Deep.QuietTactic
import Derived.BigQuiet
import Derived.WalkSmall
namespace Go.Proofs.Qxb6605765a
open Go.RowKit

set_option maxRecDepth 100000 in
theorem nest_out (a : Option Addr) (len cap : Nat) (gs : List (List Value)) (am : Option Addr) (lm cm : Nat) (w : World) (h : IsGroups w a len gs) (hs : Strs len gs) (hm : len ≤ maxLen) (hml : ∀ i, i < len → (gs.getD i []).length ≤ maxLen) (hlm : lm ≤ maxLen)
    (ho : 1024 < len ∨ (len ≤ 1024 ∧ 65536 < lm)) :
    Calls Try.prog 6 #[.slice a len cap, .slice am lm cm] w (Done w) := by
  have H : Hid (Calls Try.prog 21 #[.slice a len cap, .slice am lm cm] w (Answers w (Smalls len gs))) := bytes21 a len cap gs am lm cm w h hs hm hml hlm
  clear h hs hml
  unfold maxLen at hm hlm
  rcases ho with h1 | ⟨h1, h2⟩
  all_goals
    go_enter Try.func6, Try.ntmps6
    go_wp2_with fail
    refine H.out.mono ?_
    rintro e w1 ⟨bv, rfl, hw1, -⟩
    subst w1
    cases bv
    all_goals
      go_wp2_with fail
      go_ret
      exact ⟨rfl, Below.refl _ _⟩

set_option maxRecDepth 100000 in
set_option maxHeartbeats 1000000 in
theorem nest_in (a : Option Addr) (len cap : Nat) (gs : List (List Value)) (am : Option Addr) (lm cm : Nat) (ys : List Value) (w : World) (h : IsGroups w a len gs) (hs : Strs len gs) (hml : ∀ i, i < len → (gs.getD i []).length ≤ maxLen)
    (hy : IsRow w am lm ys) (hys : ∀ i, i < lm → ∃ s, ys.getD i .nilIface = .bool s) (hm : len ≤ 1024) (hlm : lm ≤ 65536) :
    Calls Try.prog 6 #[.slice a len cap, .slice am lm cm] w (Done w) := by
  have H : Hid (Calls Try.prog 21 #[.slice a len cap, .slice am lm cm] w (Answers w (Smalls len gs))) := bytes21 a len cap gs am lm cm w h hs (by unfold maxLen; omega) hml (by unfold maxLen; omega)
  have HK : Hid (Smalls len gs → Calls Try.prog 22 #[.slice a len cap] w fun e w' => ∃ a' c', e = .returned (.slice a' len c') ∧ IsGroups w' a' len gs ∧ Below w.heap.size w w') := fun hsm => clone_groups a len cap gs w h hs (by omega) (fun i hi => by have := (hsm i hi).1; omega)
  have HKB : Hid (∀ wx, Below w.heap.size w wx → Calls Try.prog 18 #[.slice am lm cm] wx fun e w' => ∃ sv, e = .returned sv ∧ w'.ownsRow wx.heap.size 4 1 sv lm ys ∧ Below wx.heap.size wx w') := fun wx hb => clone_bools am lm cm ys wx (hy.later hb) hys (by omega)
  have HR : Hid (IsGroups w a len gs) := h
  have HS : Hid (Strs len gs) := hs
  have HYS : Hid (∀ i, i < lm → ∃ s, ys.getD i .nilIface = .bool s) := hys
  clear h hs hy hys hml
  go_enter Try.func6, Try.ntmps6
  go_wp2_with fail
  refine H.out.mono ?_
  rintro e w1 ⟨bv, rfl, hw1, hsm⟩
  subst w1
  have HM : Hid (bv = true → Smalls len gs) := hsm
  clear H hsm
  cases bv
  · go_wp2_with fail
    go_ret
    exact ⟨rfl, Below.refl _ _⟩
  have HM2 : Hid (Smalls len gs) := HM.out rfl
  clear HM
  go_wp2_with fail
  go_loop [5, 6, 7] (fun z lv i => ∃ (k : Nat) (q : Int), k ≤ len ∧ i = .int .i64 k ∧ z = .int .i64 q ∧ 0 ≤ q ∧ q ≤ 1048576 ∧ lv = .int .i64 ((gs.take k).flatten.length : Nat) ∧ (gs.take k).flatten.length ≤ 1024) (fun _ _ i => len - (intOf i).toNat)
  case atStart => exact ⟨0, _, Nat.zero_le _, rfl, rfl, by omega, by omega, rfl, by simp⟩
  case round =>
    obtain ⟨k, q, hk, rfl, rfl, hq0, hq1, rfl, hlv⟩ := hrel
    by_cases hlt : k < len
    · obtain ⟨b, o, rfl, hc⟩ := HR.out.2 (by omega)
      obtain ⟨a', c', hck, hrow⟩ := hc k hlt
      obtain ⟨hl1, hst⟩ := HM2.out k hlt
      have hfl := flatten_take gs k (by rw [HR.out.1]; exact hlt)
      have hfl2 : ((gs.take (k + 1)).flatten.length : Nat) = (gs.take k).flatten.length + (gs.getD k []).length := by rw [hfl, List.length_append]
      have HFL : Hid (((gs.take (k + 1)).flatten.length : Nat) = (gs.take k).flatten.length + (gs.getD k []).length) := hfl2
      have HROW : Hid (IsRow w a' (gs.getD k []).length (gs.getD k [])) := hrow
      have HST : Hid (∀ j, j < (gs.getD k []).length → Small ((gs.getD k []).getD j .nilIface)) := hst
      clear hfl hfl2 hc hrow hst HK HKB
      generalize hlg : (gs.getD k []).length = lg at *
      generalize hLk : (gs.take k).flatten.length = Lk at *
      clear hlg hLk
      by_cases hl2 : (Lk : Int) + (lg : Int) ≤ 1024
      · go_wp2_with fail
        go_loop [5, 8] (fun z i => ∃ (j : Nat) (q : Int), j ≤ lg ∧ i = .int .i64 j ∧ z = .int .i64 q ∧ 0 ≤ q ∧ q ≤ 1048576) (fun _ i => lg - (intOf i).toNat)
        case atStart => exact ⟨0, _, Nat.zero_le _, rfl, rfl, by omega, by omega⟩
        case round =>
          obtain ⟨j, q2, hj, rfl, rfl, hq20, hq21⟩ := hrel
          by_cases hltj : j < lg
          · obtain ⟨b2, o2, rfl, hc2⟩ := HROW.out.2 (by omega)
            have hck2 := hc2 j hltj
            obtain ⟨t, e, htt⟩ := HST.out j hltj
            rw [e] at hck2
            clear hc2 e
            by_cases hbig : 1048576 < q2 + (16 + (t.size : Int))
            · go_wp2_with fail
              go_ret
              exact ⟨rfl, Below.refl _ _⟩
            · go_wp2_with fail
              go_round
              case rel => exact ⟨j + 1, _, by omega, by go_num, rfl, by omega, by omega⟩
              case measure => simp [intOf]; omega
          · go_wp2_with fail
            go_round
            case rel => exact ⟨k + 1, _, by omega, by go_num, rfl, by omega, by omega, by rw [HFL.out]; go_num, by rw [HFL.out]; omega⟩
            case measure => simp [intOf]; omega
      · go_wp2_with fail
        go_ret
        exact ⟨rfl, Below.refl _ _⟩
    · have hend : (gs.take k).flatten.length = gs.flatten.length := by rw [List.take_of_length_le (by rw [HR.out.1]; omega)]
      rw [hend] at hlv
      have HLV : Hid (gs.flatten.length ≤ 1024) := hlv
      have HKK : Hid (Calls Try.prog 22 #[.slice a len cap] w fun e w' => ∃ a' c', e = .returned (.slice a' len c') ∧ IsGroups w' a' len gs ∧ Below w.heap.size w w') := HK.out HM2.out
      generalize (gs.take k).flatten.length = Lk at *
      clear hend hlv hq0 hq1 HK HM2
      go_wp2_with fail
      refine HKK.out.mono ?_
      rintro e W1 ⟨ax, cx, rfl, hgx, hbw1⟩
      go_wp2_with fail
      refine (HKB.out W1 hbw1).mono ?_
      rintro e W ⟨sv, rfl, hown2, hbw2⟩
      obtain ⟨ay, cy, rfl, hry⟩ := own_row hown2
      have HGX : Hid (IsGroups W ax len gs) := hgx.later hbw2
      have hbw : Below w.heap.size w W := hbw1.trans (hbw2.mono hbw1.size)
      have HF : Hid (∀ wx, Below W.heap.size W wx → ∀ i : Nat, i ≤ 65536 → Calls Try.prog 19 #[.slice ay lm cy, .int .i64 i] wx fun e w' => e = .returned (.bool (flagAt ys i)) ∧ w' = wx) := fun wx hb i hi => flag_any ay lm cy ys i wx (hry.later hb) HYS.out (by omega) (by omega)
      clear hown2 hgx hry hbw1 hbw2 HKK HKB HYS
      go_wp2_with fail
      go_loopw [9, 10] (fun v i wr => ∃ k : Nat, k ≤ len ∧ i = .int .i64 k ∧ AccOf wr gs ys k v ∧ Below W.heap.size W wr) (fun _ i _ => len - (intOf i).toNat)
      case atStart => exact ⟨0, Nat.zero_le _, rfl, AccOf.zero _ _ _, Below.refl _ _⟩
      case round =>
        obtain ⟨k2, hk2, rfl, hacc, hbr⟩ := hrel
        by_cases hlt2 : k2 < len
        · obtain ⟨bx, ox, rfl, hcx⟩ := HGX.out.2 (by omega)
          obtain ⟨a', c', hck, hrow⟩ := hcx k2 hlt2
          have HST : Hid (∀ j, j < (gs.getD k2 []).length → ∃ s, (gs.getD k2 []).getD j .nilIface = .string s) := HS.out k2 hlt2
          have HROW : Hid (IsRow W a' (gs.getD k2 []).length (gs.getD k2 [])) := hrow
          have hie := hacc.isErr
          have HACC : Hid (AccOf wr gs ys k2 _) := hacc
          have HIE : Hid (IsErr _) := hie
          have HSTEP : Hid (∀ (wx w2 w3 : World) (ge ge' v : Value), Below wr.heap.size wr wx → Chain wx (gs.getD k2 []) (gs.getD k2 []).length ge → Below wx.heap.size wx w2 → (flagAt ys k2 = false → ge' = ge) →
              (flagAt ys k2 = true → ((ge = .nilIface ∧ ge' = .nilIface) ∨ (∃ t x, ge = .iface t x ∧ ge' = .iface 43 (.pointer (some ⟨wx.heap.size, 0, none⟩)) ∧ w2.cell? ⟨wx.heap.size, 0, none⟩ = some ge))) →
              ((_ = Value.nilIface ∧ ge' = .nilIface ∧ v = .nilIface) ∨ (live [_, ge'] ≠ [] ∧ IsJoin w3 v (live [_, ge']))) → Below w2.heap.size w2 w3 → AccOf w3 gs ys (k2 + 1) v) :=
            fun wx w2 w3 ge ge' v h1 h2 h3 h4 h5 h6 h7 => acc_step hacc h1 h2 h3 h4 h5 h6 h7
          have HFL : Hid (∀ wx, Below W.heap.size W wx → Calls Try.prog 19 #[.slice ay lm cy, .int .i64 k2] wx fun e w' => e = .returned (.bool (flagAt ys k2)) ∧ w' = wx) := fun wx hb => HF.out wx hb k2 (by omega)
          have hlgb : (gs.getD k2 []).length ≤ 1024 := Nat.le_trans (flat_part_le gs k2 (by rw [HGX.out.1]; exact hlt2)) HLV.out
          clear hcx hrow hacc hie
          generalize gs.getD k2 [] = grp at *
          generalize hlg : grp.length = lg at *
          have HLG : Hid (grp.length = lg) := hlg
          clear hlg
          obtain ⟨wo, rfl⟩ : ∃ wo : World, wo = wr := ⟨_, rfl⟩
          have hcko := cell_later hbr hck
          go_wp2_with fail
          go_loopw [11, 12] (fun v i wr => ∃ j : Nat, j ≤ lg ∧ i = .int .i64 j ∧ Chain wr grp j v ∧ Below wo.heap.size wo wr) (fun _ i _ => lg - (intOf i).toNat)
          case atStart => exact ⟨0, Nat.zero_le _, rfl, Chain.zero _ _, Below.refl _ _⟩
          case round =>
            obtain ⟨j, hj, rfl, hch, hbr2⟩ := hrel
            have hckr := cell_later hbr2 hcko
            by_cases hltj : j < lg
            · obtain ⟨b2, o2, rfl, hc2⟩ := HROW.out.2 (by omega)
              obtain ⟨t, e⟩ := HST.out j hltj
              have hct : wr.cell? ⟨b2, o2 + j, none⟩ = some (.string t) := by
                have := hc2 j hltj
                rw [e] at this
                exact cell_later hbr2 (cell_later hbr this)
              have HE : Hid (grp.getD j .nilIface = .string t) := e
              have hie := hch.isErr
              have HCH : Hid (Chain wr grp j _) := hch
              have hbn : Below wr.heap.size wr (wr.alloc (.cells #[.string t] 54)) := (Below.refl _ _).alloc (Nat.le_refl _) _
              clear e hch hc2 HSTEP HFL HACC
              rcases hie with rfl | ⟨t9, x9, rfl⟩
              all_goals
                go_wp2_with fail
                refine (zznew_any _ _).mono ?_
                rintro e w1 ⟨rfl, hw1⟩
                subst w1
                go_wp2_with fail
                refine (zzjoin2_some _ _ _ (by first | exact .inl rfl | exact .inr ⟨_, _, rfl⟩) (.inr ⟨_, _, rfl⟩) (live_snoc _ _ _)).mono ?_
                rintro e w1 ⟨vj, rfl, hjj, hbj⟩
                have HJ : Hid (Chain w1 grp (j + 1) vj) := HCH.out.step HE.out hbn (by simp) hjj hbj
                have hbr3 : Below wo.heap.size wo w1 := (hbr2.trans (hbn.mono hbr2.size)).trans (hbj.mono (by have := hbr2.size; simp; omega))
                have hvj : ∃ a, vj = .iface 56 (.pointer a) := by
                  obtain ⟨b, g, c, rfl, _⟩ := hjj
                  exact ⟨_, rfl⟩
                obtain ⟨pa, rfl⟩ := hvj
                clear hjj hbj hbn HCH
                go_wp2_with fail
                go_roundw
                case rel => exact ⟨j + 1, by omega, by go_num, HJ.out, hbr3⟩
                case measure => simp [intOf]; omega
            · obtain rfl : j = lg := by omega
              have hbW : Below W.heap.size W wr := hbr.trans (hbr2.mono hbr.size)
              have HFX : Hid (Calls Try.prog 19 #[.slice ay lm cy, .int .i64 k2] wr fun e w' => e = .returned (.bool (flagAt ys k2)) ∧ w' = wr) := HFL.out wr hbW
              have HIG : Hid (IsErr _) := hch.isErr
              have HCH : Hid (Chain wr grp j _) := hch
              have HS3 := HSTEP.out wr
              clear HFL HSTEP hch HST HROW
              cases hfl : flagAt ys k2 with
              | false =>
                rw [hfl] at HFX
                have HS4 : Hid (∀ (w3 : World) (v : Value), ((_ = Value.nilIface ∧ _ = Value.nilIface ∧ v = .nilIface) ∨ (live [_, _] ≠ [] ∧ IsJoin w3 v (live [_, _]))) → Below wr.heap.size wr w3 → AccOf w3 gs ys (k2 + 1) v) :=
                  fun w3 v h6 h7 => HS3 wr w3 _ _ v hbr2 HCH.out (Below.refl _ _) (fun _ => rfl) (fun h => by rw [hfl] at h; cases h) h6 h7
                clear HS3 hfl
                go_wp2_with fail
                refine HFX.out.mono ?_
                rintro e w4 ⟨rfl, hw4⟩
                subst w4
                go_wp2_with fail
                refine (zzjoin2_any _ _ _ HIE.out HIG.out).mono ?_
                rintro e w5 ⟨v5, rfl, hj5, hb5⟩
                have HA5 : Hid (AccOf w5 gs ys (k2 + 1) v5) := HS4.out w5 v5 hj5 hb5
                have hb5W : Below W.heap.size W w5 := hbW.trans (hb5.mono hbW.size)
                clear hj5 hb5 HS4
                go_wp2_with fail
                go_roundw
                case rel => exact ⟨k2 + 1, by omega, by go_num, HA5.out, hb5W⟩
                case measure => simp [intOf]; omega
              | true =>
                rw [hfl] at HFX
                have HS4 : Hid (∀ (w2 w3 : World) (ge' v : Value), ((_ = Value.nilIface ∧ ge' = .nilIface) ∨ (∃ t x, _ = Value.iface t x ∧ ge' = .iface 43 (.pointer (some ⟨wr.heap.size, 0, none⟩)) ∧ w2.cell? ⟨wr.heap.size, 0, none⟩ = some _)) → Below wr.heap.size wr w2 → ((_ = Value.nilIface ∧ ge' = Value.nilIface ∧ v = .nilIface) ∨ (live [_, ge'] ≠ [] ∧ IsJoin w3 v (live [_, ge']))) → Below w2.heap.size w2 w3 → AccOf w3 gs ys (k2 + 1) v) :=
                  fun w2 w3 ge' v h5 h3 h6 h7 => HS3 w2 w3 _ ge' v hbr2 HCH.out h3 (fun h => by rw [hfl] at h; cases h) (fun _ => h5) h6 h7
                clear HS3 hfl
                go_wp2_with fail
                refine HFX.out.mono ?_
                rintro e w4 ⟨rfl, hw4⟩
                subst w4
                go_wp2_with fail
                refine (retryable_any _ _ HIG.out).mono ?_
                rintro e w4 ⟨ge', rfl, hre, hb4⟩
                have HIG' : Hid (IsErr ge') := by
                  rcases hre with ⟨_, e⟩ | ⟨t, x, _, e, _⟩
                  · exact .inl e
                  · exact .inr ⟨_, _, e⟩
                have HS5 : Hid (∀ (w3 : World) (v : Value), ((_ = Value.nilIface ∧ ge' = Value.nilIface ∧ v = .nilIface) ∨ (live [_, ge'] ≠ [] ∧ IsJoin w3 v (live [_, ge']))) → Below w4.heap.size w4 w3 → AccOf w3 gs ys (k2 + 1) v) :=
                  fun w3 v h6 h7 => HS4.out w4 w3 ge' v hre hb4 h6 h7
                have hbW4 : Below W.heap.size W w4 := hbW.trans (hb4.mono hbW.size)
                clear HS4 hre hb4
                go_wp2_with fail
                refine (zzjoin2_any _ _ _ HIE.out HIG'.out).mono ?_
                rintro e w5 ⟨v5, rfl, hj5, hb5⟩
                have HA5 : Hid (AccOf w5 gs ys (k2 + 1) v5) := HS5.out w5 v5 hj5 hb5
                have hb5W : Below W.heap.size W w5 := hbW4.trans (hb5.mono hbW4.size)
                clear hj5 hb5 HS5
                go_wp2_with fail
                go_roundw
                case rel => exact ⟨k2 + 1, by omega, by go_num, HA5.out, hb5W⟩
                case measure => simp [intOf]; omega
        · obtain rfl : k2 = len := by omega
          obtain ⟨d, pss, hgp, hpo⟩ := hacc
          have hpl : pss.flatten.length ≤ 1024 := by
            refine Nat.le_trans (flatten_len_le pss gs (by rw [hgp.1, HGX.out.1]) (fun g hg => (hgp.2 g (by rw [← hgp.1]; exact hg)).le)) HLV.out
          have HPC : Hid (PartsCall wr _ pss.flatten) := parts_any d wr _ _ hpo (by omega)
          have HGP : Hid (GParts wr gs ys k2 pss) := hgp
          have hbe : Below w.heap.size w wr := hbw.trans (hbr.mono hbw.size)
          clear hgp hpo
          generalize hN : pss.flatten.length = N at *
          have HN : Hid (pss.flatten.length = N) := hN
          clear hN
          go_wp2_with fail
          refine Calls.mono HPC.out ?_
          rintro e w5 ⟨sv, rfl, hown5, hb5⟩
          rw [HN.out] at hown5
          obtain ⟨pa, pc, rfl, hrp⟩ := own_row hown5
          have HRP : Hid (IsRow w5 pa N pss.flatten) := hrp
          have HG5 : Hid (GParts w5 gs ys k2 pss) := HGP.out.later hb5
          have hbW5 : Below W.heap.size W w5 := hbr.trans (hb5.mono hbr.size)
          have hbe5 : Below w.heap.size w w5 := hbe.trans (hb5.mono hbe.size)
          clear HPC hown5 hrp HGP hb5 hbe hbr
          go_wp2_with fail
          go_loopw [14, 15] (fun q i wr => ∃ g : Nat, g ≤ k2 ∧ i = .int .i64 g ∧ q = .int .i64 ((pss.take g).flatten.length : Nat) ∧ Below w5.heap.size w5 wr) (fun _ i _ => k2 - (intOf i).toNat)
          case atStart => exact ⟨0, Nat.zero_le _, rfl, rfl, Below.refl _ _⟩
          case round =>
            obtain ⟨g, hg, rfl, rfl, hb6⟩ := hrel
            have hKle : (pss.take g).flatten.length ≤ N := by rw [← HN.out]; exact flatten_take_le pss g
            by_cases hltg : g < k2
            · obtain ⟨bx, ox, rfl, hcx⟩ := HGX.out.2 (by omega)
              obtain ⟨a', c', hck, hrow⟩ := hcx g hltg
              have hbWr : Below W.heap.size W wr := hbW5.trans (hb6.mono hbW5.size)
              have hckr := cell_later hbWr hck
              have HROW : Hid (IsRow wr a' (gs.getD g []).length (gs.getD g [])) := hrow.later hbWr
              have HPART : Hid (GPart wr (gs.getD g []) (flagAt ys g) (pss.getD g [])) := (HG5.out.2 g hltg).later hb6
              have hgl : g < pss.length := by rw [HG5.out.1]; exact hltg
              have HNX : Hid ((pss.take (g + 1)).flatten.length = (pss.take g).flatten.length + (pss.getD g []).length) := show _ = _ by rw [flatten_take pss g hgl, List.length_append]
              have HGET : Hid (∀ j, j < (pss.getD g []).length → (pss.take g).flatten.length + j < N ∧ pss.flatten.getD ((pss.take g).flatten.length + j) .nilIface = (pss.getD g []).getD j .nilIface) := fun j hj => by rw [← HN.out]; exact flat_get pss g j _ hgl hj
              have hlgb : (gs.getD g []).length ≤ 1024 := Nat.le_trans (flat_part_le gs g (by rw [HGX.out.1]; exact hltg)) HLV.out
              have HFL : Hid (∀ nn, Calls Try.prog 19 #[.slice ay lm cy, .int .i64 g] (wr.drewN nn) fun e w' => e = .returned (.bool (flagAt ys g)) ∧ w' = wr.drewN nn) := fun nn => HF.out _ (below_drewN hbWr nn) g (by omega)
              have HFX : Hid (Calls Try.prog 19 #[.slice ay lm cy, .int .i64 g] wr fun e w' => e = .returned (.bool (flagAt ys g)) ∧ w' = wr) := HF.out wr hbWr g (by omega)
              clear hcx hrow hck hgl HFL
              generalize gs.getD g [] = grp at *
              generalize pss.getD g [] = ps at *
              generalize hK : (pss.take g).flatten.length = K at *
              generalize hlg : grp.length = lg at *
              have HLG : Hid (grp.length = lg) := hlg
              clear hK hlg
              obtain ⟨wo, rfl⟩ : ∃ wo : World, wo = wr := ⟨_, rfl⟩
              rcases HPART.out with ⟨hl0, rfl⟩ | ⟨hl0, hfl, b, u, es, rfl, hcb, hch⟩ | ⟨hl0, hfl, hpl2, hpt⟩
              · obtain rfl : lg = 0 := by rw [← HLG.out]; exact hl0
                have HNX2 : Hid ((pss.take (g + 1)).flatten.length = K) := HNX.out
                clear hl0 HGET HNX HPART HROW HFX
                go_wp2_with fail
                go_roundw
                case rel => exact ⟨g + 1, by omega, by go_num, by rw [HNX2.out], hb6⟩
                case measure => simp [intOf]; omega
              · rw [HLG.out] at hl0 hch
                obtain ⟨hKN, hKp⟩ := HGET.out 0 (by simp)
                rw [Nat.add_zero] at hKN hKp
                obtain ⟨b5, o5, rfl, hc5⟩ := HRP.out.2 (by omega)
                have hcp : wo.cell? ⟨b5, o5 + K, none⟩ = some (.iface 43 (.pointer (some ⟨b, 0, none⟩))) := by
                  have := hc5 K hKN
                  rw [hKp] at this
                  exact cell_later hb6 this
                obtain ⟨ja, rfl⟩ := hch.2.2.2.2 hl0
                rw [hfl] at HFX
                have HCH : Hid (ChainOf wo grp lg (.iface 56 (.pointer (some ja))) es) := hch
                have hd1 : decide ((N : Int) ≤ (K : Int)) = false := by simp; omega
                have hKNi : (K : Int) < (N : Int) := by omega
                have hlne : ((lg : Int) == 0) = false := by simp; omega
                have HNX2 : Hid ((pss.take (g + 1)).flatten.length = K + 1) := HNX.out
                clear hKp hc5 hch hfl HGET HNX HPART
                go_wp2_with fail
                refine HFX.out.mono ?_
                rintro e w6 ⟨rfl, hw6⟩
                subst w6
                go_wp2_with fail
                refine (parts43 _ _).mono ?_
                rintro e w6 ⟨rfl, hw6⟩
                have hbo6 : Below wo.heap.size wo w6 := by rw [hw6]; exact (Below.refl _ _).alloc (Nat.le_refl _) _
                have hc6 : w6.cell? ⟨wo.heap.size, 0, none⟩ = some (.iface 43 (.pointer (some ⟨b, 0, none⟩))) := by rw [hw6]; simp
                have hcb6 := cell_later hbo6 hcb
                have HPC6 : Hid (PartsCall w6 (.iface 56 (.pointer (some ja))) es) := parts_any lg w6 _ es (HCH.out.later hbo6).2.2.1 (by rw [HCH.out.1]; omega)
                clear hw6 hcp hcb
                go_wp2_with (first | (go_at_call 11; refine (same43 _ _).mono ?_; rintro e w7 ⟨rfl, hw7⟩; subst w7) | (go_at_call 13; refine (zzunwrap43 _ _ _ _ hcb6 (.inr ⟨_, _, rfl⟩)).mono ?_; rintro e w7 ⟨rfl, hw7⟩; subst w7))
                refine Calls.mono HPC6.out ?_
                rintro e w7 ⟨sv, rfl, hown7, hb67⟩
                rw [HCH.out.1] at hown7
                obtain ⟨g7, c7, rfl, -, -, hcs⟩ := own_some hown7 hl0
                have HC7 : Hid (∀ i, i < lg → w7.cell? ⟨g7, i, none⟩ = some (es.getD i .nilIface)) := fun i hi => hcs i _ hi
                have hbo7 : Below wo.heap.size wo w7 := hbo6.trans (hb67.mono hbo6.size)
                have hne2 : ((lg : Int) != (lg : Int)) = false := by simp
                clear hcs hown7 HPC6 hb67 hbo6 hcb6 hc6
                go_wp2_with fail
                go_loopw [21] (fun i wr => ∃ j : Nat, j ≤ lg ∧ i = .int .i64 j ∧ Below w7.heap.size w7 wr) (fun i _ => lg - (intOf i).toNat)
                case atStart => exact ⟨0, Nat.zero_le _, rfl, Below.refl _ _⟩
                case round =>
                  obtain ⟨j, hj, rfl, hb8⟩ := hrel
                  by_cases hltj : j < lg
                  · obtain ⟨t, e1, hl⟩ := HCH.out.2.1 j hltj
                    obtain ⟨b2, o2, rfl, hc2⟩ := HROW.out.2 (by omega)
                    have hbor : Below wo.heap.size wo wr := hbo7.trans (hb8.mono hbo7.size)
                    have hcx : wr.cell? ⟨b2, o2 + j, none⟩ = some (.string t) := by
                      have := hc2 j hltj
                      rw [e1] at this
                      exact cell_later hbor this
                    have hcy := cell_later hb8 (HC7.out j hltj)
                    obtain ⟨b9, o9, e9, hc9⟩ := hl.later0 hbor
                    rw [e9] at hcy
                    have HL : Hid (∀ nn, Lay (wr.drewN nn) t 0 (.iface 52 (.pointer (some ⟨b9, o9, none⟩)))) := fun nn => ⟨b9, o9, rfl, hc9⟩
                    clear e1 hl e9 hc9 hc2
                    go_wp2_with fail
                    go_quiet (first | (go_at_call 12; exact Calls.quiet_of_same (zztext _ _ 0 _ (HL.out _))) | (go_at_call 13; exact Calls.quiet_of_same (zzunwrap52 _ _)))
                    go_wp2_with fail
                    go_roundw
                    case rel => exact ⟨j + 1, by omega, by go_num, below_drewN hb8 _⟩
                    case measure => simp [intOf]; omega
                  · have hb5r : Below w5.heap.size w5 wr := hb6.trans ((hbo7.trans (hb8.mono hbo7.size)).mono hb6.size)
                    go_wp2_with fail
                    go_roundw
                    case rel => exact ⟨g + 1, by omega, by go_num, by rw [HNX2.out]; go_num, hb5r⟩
                    case measure => simp [intOf]; omega
              · rw [HLG.out] at hl0 hpl2 hpt
                rw [hpl2] at HGET HNX
                rw [hfl] at HFX
                have HPT : Hid (∀ i, i < lg → ∃ s, grp.getD i .nilIface = .string s ∧ Lay wo s 0 (ps.getD i .nilIface)) := hpt
                have hlne : ((lg : Int) == 0) = false := by simp; omega
                obtain ⟨b5, o5, rfl, hc5⟩ := HRP.out.2 (by have := (HGET.out 0 hl0).1; omega)
                have HC5 : Hid (∀ i, i < N → w5.cell? ⟨b5, o5 + i, none⟩ = some (pss.flatten.getD i .nilIface)) := hc5
                clear hpt hfl hc5 HPART hpl2
                go_wp2_with fail
                refine HFX.out.mono ?_
                rintro e w6 ⟨rfl, hw6⟩
                subst w6
                clear HFX
                go_wp2_with fail
                go_loopw [14, 22] (fun q i wr => ∃ j : Nat, j ≤ lg ∧ i = .int .i64 j ∧ q = .int .i64 ((K : Int) + (j : Int)) ∧ Below wo.heap.size wo wr) (fun _ i _ => lg - (intOf i).toNat)
                case atStart => exact ⟨0, Nat.zero_le _, rfl, by go_num, Below.refl _ _⟩
                case round =>
                  obtain ⟨j, hj, rfl, rfl, hb8⟩ := hrel
                  by_cases hltj : j < lg
                  · obtain ⟨hKN, hKp⟩ := HGET.out j hltj
                    obtain ⟨t, e1, hl⟩ := HPT.out j hltj
                    obtain ⟨b2, o2, rfl, hc2⟩ := HROW.out.2 (by omega)
                    have hcx : wr.cell? ⟨b2, o2 + j, none⟩ = some (.string t) := by
                      have := hc2 j hltj
                      rw [e1] at this
                      exact cell_later hb8 this
                    obtain ⟨b9, o9, e9, hc9⟩ := hl.later0 hb8
                    have hcp : wr.cell? ⟨b5, o5 + (K + j), none⟩ = some (.iface 52 (.pointer (some ⟨b9, o9, none⟩))) := by
                      have := HC5.out (K + j) hKN
                      rw [hKp, e9] at this
                      exact cell_later hb8 (cell_later hb6 this)
                    have HL : Hid (∀ nn, Lay (wr.drewN nn) t 0 (.iface 52 (.pointer (some ⟨b9, o9, none⟩)))) := fun nn => ⟨b9, o9, rfl, hc9⟩
                    have hd1 : decide ((N : Int) ≤ (K : Int) + (j : Int)) = false := by simp; omega
                    have hKNi : (K : Int) + (j : Int) < (N : Int) := by omega
                    clear e1 hl e9 hc9 hc2 hKp
                    go_wp2_with fail
                    go_quiet (first | (go_at_call 12; exact Calls.quiet_of_same (zztext _ _ 0 _ (HL.out _))) | (go_at_call 13; exact Calls.quiet_of_same (zzunwrap52 _ _)))
                    go_wp2_with fail
                    refine (parts52 _ _).mono ?_
                    rintro e w8 ⟨rfl, hw8⟩
                    have hb9 : Below wo.heap.size wo w8 := by rw [hw8]; exact (below_drewN hb8 _).alloc hb8.size _
                    have hc8 : w8.cell? ⟨wr.heap.size, 0, none⟩ = some (.iface 52 (.pointer (some ⟨b9, o9, none⟩))) := by rw [hw8]; exact (World.cell?_alloc_at _ _ _ _ rfl).trans rfl
                    clear hw8
                    go_wp2_with (go_at_call 11; refine (same52 _ _).mono ?_; rintro e w7 ⟨rfl, hw7⟩; subst w7)
                    go_roundw
                    case rel => exact ⟨j + 1, by omega, by go_num, by go_num, hb9⟩
                    case measure => simp [intOf]; omega
                  · obtain rfl : j = lg := by omega
                    have hb5r : Below w5.heap.size w5 wr := hb6.trans (hb8.mono hb6.size)
                    go_wp2_with fail
                    go_roundw
                    case rel => exact ⟨g + 1, by omega, by go_num, by rw [HNX.out]; go_num, hb5r⟩
                    case measure => simp [intOf]; omega
            · have hend : (pss.take g).flatten.length = N := by rw [List.take_of_length_le (by rw [HG5.out.1]; omega)]; exact HN.out
              rw [hend]
              have hbend : Below w.heap.size w wr := hbe5.trans (hb6.mono hbe5.size)
              clear hend hKle
              go_wp2_with fail
              go_ret
              exact ⟨rfl, hbend⟩
end Go.Proofs.Qxb6605765a
