import Derived.Test.Qxb6605765aChain
import Derived.Deep.QuietTactic
import Derived.BigQuiet
import Derived.WalkSmall
namespace Go.Proofs.Qxb6605765a
open Go.RowKit

/-- The law's end: true; nothing that was there has turned. -/
def Done (w : World) (e : Ending) (w' : World) : Prop := e = .returned (.bool true) ∧ Below w.heap.size w w'

set_option maxRecDepth 100000 in
theorem mark_out (a : Option Addr) (len cap : Nat) (xs : List Value) (s : ByteArray) (n : Int) (w : World) (h : IsRow w a len xs) (hs : ∀ i, i < len → ∃ s, xs.getD i .nilIface = .string s) (hm : len ≤ maxLen)
    (ho : 1024 < len ∨ (len ≤ 1024 ∧ 1048576 < s.size) ∨ (len ≤ 1024 ∧ s.size ≤ 1048576 ∧ n < 1) ∨ (len ≤ 1024 ∧ s.size ≤ 1048576 ∧ 1 ≤ n ∧ 1024 < n)) :
    Calls Try.prog 4 #[.slice a len cap, .string s, .int .i64 n] w (Done w) := by
  have H : Hid (Calls Try.prog 14 #[.slice a len cap, .string s, .int .i64 n] w (Answers w (∀ i, i < len → Small (xs.getD i .nilIface)))) := bytes14 a len cap xs s n w h hs hm
  clear h hs
  unfold maxLen at hm
  rcases ho with h1 | ⟨h1, h2⟩ | ⟨h1, h2, h3⟩ | ⟨h1, h2, h3, h4⟩
  all_goals
    go_enter Try.func4, Try.ntmps4
    go_wp2_with fail
    refine H.out.mono ?_
    rintro e w1 ⟨bv, rfl, hw1, -⟩
    subst w1
    cases bv
    all_goals
      go_wp2_with fail
      go_ret
      exact ⟨rfl, Below.refl _ _⟩

set_option maxRecDepth 100000 in
set_option maxHeartbeats 1000000 in
theorem mark_in (a : Option Addr) (len cap : Nat) (xs : List Value) (s : ByteArray) (n : Nat) (w : World) (h : IsRow w a len xs) (hs : ∀ i, i < len → ∃ s, xs.getD i .nilIface = .string s) (hm : len ≤ 1024)
    (h2 : s.size ≤ 1048576) (h3 : 1 ≤ n) (h4 : n ≤ 1024) :
    Calls Try.prog 4 #[.slice a len cap, .string s, .int .i64 n] w (Done w) := by
  have H : Hid (Calls Try.prog 14 #[.slice a len cap, .string s, .int .i64 n] w (Answers w (∀ i, i < len → Small (xs.getD i .nilIface)))) := bytes14 a len cap xs s n w h hs (by unfold maxLen; omega)
  have HK : Hid (Calls Try.prog 15 #[.slice a len cap] w fun e w' => ∃ sv, e = .returned sv ∧ w'.ownsRow w.heap.size 9 1 sv len xs ∧ Below w.heap.size w w') := clone_strings a len cap xs w h hs (by omega)
  have HR : Hid (IsRow w a len xs) := h
  have HS : Hid (∀ i, i < len → ∃ s, xs.getD i .nilIface = .string s) := hs
  clear h hs
  have g1 : ¬ (n : Int) < 1 := by omega
  have g2 : ¬ (1024 : Int) < n := by omega
  go_enter Try.func4, Try.ntmps4
  go_wp2_with fail
  refine H.out.mono ?_
  rintro e w1 ⟨bv, rfl, hw1, hsm⟩
  subst w1
  have HM : Hid (bv = true → ∀ i, i < len → Small (xs.getD i .nilIface)) := hsm
  clear H hsm
  cases bv
  · go_wp2_with fail
    go_ret
    exact ⟨rfl, Below.refl _ _⟩
  have HM2 : Hid (∀ i, i < len → Small (xs.getD i .nilIface)) := HM.out rfl
  clear HM
  go_wp2_with fail
  go_loop [7, 8] (fun z i => ∃ (k : Nat) (q : Int), k ≤ len ∧ i = .int .i64 k ∧ z = .int .i64 q ∧ 0 ≤ q ∧ q ≤ 1048576) (fun _ i => len - (intOf i).toNat)
  case atStart => exact ⟨0, _, Nat.zero_le _, rfl, rfl, by omega, by omega⟩
  case round =>
    obtain ⟨k, q, hk, rfl, rfl, hq0, hq1⟩ := hrel
    by_cases hlt : k < len
    · obtain ⟨b, o, rfl, hc⟩ := HR.out.2 (by omega)
      have hck := hc k hlt
      obtain ⟨t, e, htt⟩ := HM2.out k hlt
      rw [e] at hck
      clear hc e HK
      by_cases hbig : 1048576 < q + (16 + (t.size : Int))
      · go_wp2_with fail
        go_ret
        exact ⟨rfl, Below.refl _ _⟩
      · go_wp2_with fail
        go_round
        case rel => exact ⟨k + 1, _, by omega, by go_num, rfl, by omega, by omega⟩
        case measure => simp [intOf]; omega
    · clear hq0 hq1
      go_wp2_with fail
      refine HK.out.mono ?_
      rintro e W ⟨sv, rfl, hown, hbw⟩
      by_cases hl0 : len = 0
      · subst hl0
        obtain ⟨sa, sc, rfl⟩ := own_form hown
        clear hown HM2 HR HS HK
        go_wp2_with fail
        refine wp_loop_rounds 1 ?_
        rw [rounds_succ]
        go_wp2_with fail
        go_loop [11, 12] (fun v i => ∃ k : Nat, k ≤ n ∧ i = .int .i64 k ∧ v = .nilIface) (fun _ i => n - (intOf i).toNat)
        case atStart => exact ⟨0, Nat.zero_le _, rfl, rfl⟩
        case round =>
          obtain ⟨k3, hk3, rfl, rfl⟩ := hrel
          by_cases hlt3 : k3 < n
          · go_wp2_with (go_at_call 8; refine (retryable_nil _).mono ?_; rintro e w1 ⟨rfl, hw1⟩; subst w1)
            go_round
            case rel => exact ⟨k3 + 1, by omega, by go_num, rfl⟩
            case measure => simp [intOf]; omega
          · go_wp2_with (go_at_call 10; refine (parts_nil _).mono ?_; rintro e w1 ⟨rfl, hw1⟩; subst w1)
            go_ret
            exact ⟨rfl, hbw⟩
      · obtain ⟨g, c, rfl, -, -, hcs⟩ := own_some hown (by omega)
        have HCS : Hid (∀ i, i < len → W.cell? ⟨g, i, none⟩ = some (xs.getD i .nilIface)) := fun i hi => hcs i _ hi
        clear hcs hown
        go_wp2_with fail
        go_loopw [9, 10] (fun v i wr => ∃ k : Nat, k ≤ len ∧ i = .int .i64 k ∧ Chain wr xs k v ∧ Below W.heap.size W wr) (fun _ i _ => len - (intOf i).toNat)
        case atStart => exact ⟨0, Nat.zero_le _, rfl, Chain.zero _ _, Below.refl _ _⟩
        case round =>
          obtain ⟨k2, hk2, rfl, hch, hbr⟩ := hrel
          by_cases hlt2 : k2 < len
          · obtain ⟨t, e⟩ := HS.out k2 hlt2
            have hck : wr.cell? ⟨g, k2, none⟩ = some (.string t) := by
              have := HCS.out k2 hlt2
              rw [e] at this
              exact cell_later hbr this
            have HE : Hid (xs.getD k2 .nilIface = .string t) := e
            have hie := hch.isErr
            have HCH : Hid (Chain wr xs k2 _) := hch
            clear e hch
            have hbn : Below wr.heap.size wr (wr.alloc (.cells #[.string t] 54)) := (Below.refl _ _).alloc (Nat.le_refl _) _
            rcases hie with rfl | ⟨t9, x9, rfl⟩
            all_goals
              go_wp2_with fail
              refine (zznew_any _ _).mono ?_
              rintro e w1 ⟨rfl, hw1⟩
              subst w1
              go_wp2_with fail
              refine (zzjoin2_some _ _ _ (by first | exact .inl rfl | exact .inr ⟨_, _, rfl⟩) (.inr ⟨_, _, rfl⟩) (live_snoc _ _ _)).mono ?_
              rintro e w1 ⟨vj, rfl, hj, hbj⟩
              have HJ : Hid (Chain w1 xs (k2 + 1) vj) := HCH.out.step HE.out hbn (by simp) hj hbj
              have hbr2 : Below W.heap.size W w1 := (hbr.trans (hbn.mono hbr.size)).trans (hbj.mono (by have := hbr.size; simp; omega))
              have hvj : ∃ a, vj = .iface 56 (.pointer a) := by
                obtain ⟨b, g, c, rfl, _⟩ := hj
                exact ⟨_, rfl⟩
              obtain ⟨pa, rfl⟩ := hvj
              clear hj hbj hbn HCH
              go_wp2_with fail
              go_roundw
              case rel => exact ⟨k2 + 1, by omega, by go_num, HJ.out, hbr2⟩
              case measure => simp [intOf]; omega
          · obtain rfl : k2 = len := by omega
            obtain ⟨es, hes⟩ := hch
            obtain ⟨ja, rfl⟩ := hes.2.2.2.2 (by omega)
            have HES : Hid (ChainOf wr xs k2 (.iface 56 (.pointer (some ja))) es) := hes
            clear hes
            obtain ⟨W2, rfl⟩ : ∃ W2 : World, W2 = wr := ⟨_, rfl⟩
            clear HM2 HR
            go_wp2_with fail
            go_loopw [11, 12] (fun v i wr => ∃ k : Nat, k ≤ n ∧ i = .int .i64 k ∧ Marks wr (.iface 56 (.pointer (some ja))) k v ∧ Below W2.heap.size W2 wr) (fun _ i _ => n - (intOf i).toNat)
            case atStart => exact ⟨0, Nat.zero_le _, rfl, rfl, Below.refl _ _⟩
            case round =>
              obtain ⟨k3, hk3, rfl, hm3, hb3⟩ := hrel
              by_cases hlt3 : k3 < n
              · obtain ⟨t, x, rfl⟩ := hm3.iface ⟨_, _, rfl⟩
                go_wp2_with (go_at_call 8; refine (retryable_some _ _ _).mono ?_; rintro e w1 ⟨rfl, hw1⟩; subst w1)
                go_roundw
                case rel => exact ⟨k3 + 1, by omega, by go_num, hm3.mark, hb3.alloc hb3.size _⟩
                case measure => simp [intOf]; omega
              · obtain rfl : k3 = n := by omega
                obtain ⟨kk, rfl⟩ : ∃ kk, k3 = kk + 1 := ⟨k3 - 1, by omega⟩
                obtain ⟨b, o, u, rfl, hcu, hmu⟩ := hm3
                have HM3 : Hid (Marks wr (.iface 56 (.pointer (some ja))) (kk + 1) (.iface 43 (.pointer (some ⟨b, o, none⟩)))) := ⟨b, o, u, rfl, hcu, hmu⟩
                clear hcu hmu
                have hln : ((k2 : Int) == 0) = false := by simp; omega
                go_wp2_with fail
                refine (parts43 _ _).mono ?_
                rintro e w1 ⟨rfl, hw1⟩
                have hb4 : Below wr.heap.size wr w1 := by rw [hw1]; exact (Below.refl _ _).alloc (Nat.le_refl _) _
                have hc4 : w1.cell? ⟨wr.heap.size, 0, none⟩ = some (.iface 43 (.pointer (some ⟨b, o, none⟩))) := by rw [hw1]; simp
                clear hw1
                go_wp2_with (go_at_call 11; refine (same43 _ _).mono ?_; rintro e w2 ⟨rfl, hw2⟩; subst w2)
                have HM4 : Hid (Marks w1 (.iface 56 (.pointer (some ja))) (kk + 1) (.iface 43 (.pointer (some ⟨b, o, none⟩)))) := HM3.out.later hb4
                have HES4 : Hid (ChainOf w1 xs k2 (.iface 56 (.pointer (some ja))) es) := (HES.out.later hb3).later hb4
                have hbW4 : Below W.heap.size W w1 := (hbr.trans (hb3.mono hbr.size)).trans (hb4.mono (Nat.le_trans hbr.size hb3.size))
                clear HM3 HES hb4 hb3 hbr
                go_loop [14, 15] (fun c i => ∃ j : Nat, j ≤ kk + 1 ∧ i = .int .i64 j ∧ Marks w1 (.iface 56 (.pointer (some ja))) (kk + 1 - j) c) (fun _ i => kk + 1 - (intOf i).toNat)
                case atStart => exact ⟨0, Nat.zero_le _, rfl, HM4.out⟩
                case round =>
                  obtain ⟨j, hj, rfl, hm⟩ := hrel
                  by_cases hlt2 : j < kk + 1
                  · obtain ⟨m, hmm⟩ : ∃ m, kk + 1 - j = m + 1 := ⟨kk - j, by omega⟩
                    rw [hmm] at hm
                    obtain ⟨b1, o1, u1, rfl, hcu, hmu⟩ := hm
                    have hu := hmu.iface ⟨_, _, rfl⟩
                    have hmm2 : Hid (kk + 1 - (j + 1) = m) := show kk + 1 - (j + 1) = m by omega
                    clear hmm
                    obtain ⟨t8, x8, rfl⟩ := hu
                    go_wp2_with (go_at_call 13; refine (zzunwrap43 _ _ _ _ hcu (.inr ⟨_, _, rfl⟩)).mono ?_; rintro e w2 ⟨rfl, hw2⟩; subst w2)
                    go_round
                    case rel => exact ⟨j + 1, by omega, by go_num, by rw [hmm2.out]; exact hmu⟩
                    case measure => simp [intOf]; omega
                  · have e0 : kk + 1 - j = 0 := by omega
                    rw [e0] at hm
                    have hm' : _ = _ := hm
                    subst hm'
                    clear hm e0
                    have HP4 : Hid (PartsCall w1 (.iface 56 (.pointer (some ja))) es) := parts_any k2 w1 _ es HES4.out.2.2.1 (by rw [HES4.out.1]; omega)
                    go_wp2_with (go_at_call 11; refine (same56 _ _).mono ?_; rintro e w2 ⟨rfl, hw2⟩; subst w2)
                    refine Calls.mono HP4.out ?_
                    rintro e w2 ⟨sv, rfl, hown, hb5⟩
                    rw [HES4.out.1] at hown
                    obtain ⟨g2, c2, rfl, -, -, hcs⟩ := own_some hown (by omega)
                    have HC2 : Hid (∀ i, i < k2 → w2.cell? ⟨g2, i, none⟩ = some (es.getD i .nilIface)) := fun i hi => hcs i _ hi
                    have HES5 : Hid (ChainOf w2 xs k2 (.iface 56 (.pointer (some ja))) es) := HES4.out.later hb5
                    have hbW5 : Below W.heap.size W w2 := hbW4.trans (hb5.mono hbW4.size)
                    clear hcs hown HP4 HES4 hb5 hbW4
                    have hne2 : ((k2 : Int) != (k2 : Int)) = false := by simp
                    go_wp2_with fail
                    go_loopw [17] (fun i wr => ∃ j : Nat, j ≤ k2 ∧ i = .int .i64 j ∧ Below w2.heap.size w2 wr) (fun i _ => k2 - (intOf i).toNat)
                    case atStart => exact ⟨0, Nat.zero_le _, rfl, Below.refl _ _⟩
                    case round =>
                      obtain ⟨j5, hj5, rfl, hb6⟩ := hrel
                      by_cases hlt5 : j5 < k2
                      · obtain ⟨t, e1, hl⟩ := HES5.out.2.1 j5 hlt5
                        have hcx : wr.cell? ⟨g, j5, none⟩ = some (.string t) := by
                          have := HCS.out j5 hlt5
                          rw [e1] at this
                          exact cell_later hb6 (cell_later hbW5 this)
                        have hcy := cell_later hb6 (HC2.out j5 hlt5)
                        have hl2 := hl.later0 hb6
                        obtain ⟨b7, o7, e7, hc7⟩ := hl2
                        rw [e7] at hcy
                        have HL : Hid (∀ nn, Lay (wr.drewN nn) t 0 (.iface 52 (.pointer (some ⟨b7, o7, none⟩)))) := fun nn => ⟨b7, o7, rfl, hc7⟩
                        clear e1 hl e7 hc7
                        go_wp2_with fail
                        go_quiet (first | (go_at_call 12; exact Calls.quiet_of_same (zztext _ _ 0 _ (HL.out _))) | (go_at_call 13; exact Calls.quiet_of_same (zzunwrap52 _ _)))
                        go_wp2_with fail
                        go_roundw
                        case rel => exact ⟨j5 + 1, by omega, by go_num, below_drewN hb6 _⟩
                        case measure => simp [intOf]; omega
                      · have hbW6 : Below W.heap.size W wr := hbW5.trans (hb6.mono hbW5.size)
                        have hbn : Below wr.heap.size wr (wr.alloc (.cells #[.string s] 54)) := (Below.refl _ _).alloc (Nat.le_refl _) _
                        clear HC2 HES5 HCS hc4 hb6 hbW5
                        go_wp2_with fail
                        refine (zznew_any _ _).mono ?_
                        rintro e w3 ⟨rfl, hw3⟩
                        subst w3
                        go_wp2_with fail
                        refine (zzjoin2_some _ _ _ (.inr ⟨_, _, rfl⟩) (.inr ⟨_, _, rfl⟩) (live_snoc _ _ _)).mono ?_
                        rintro e w4 ⟨vj, rfl, hj, hbj⟩
                        have hcs4 : w4.cell? ⟨wr.heap.size, 0, none⟩ = some (.string s) := cell_later hbj (by simp)
                        have hbW7 : Below W.heap.size W w4 := (hbW6.trans (hbn.mono hbW6.size)).trans (hbj.mono (by have := hbW6.size; simp; omega))
                        have hP7 : PartsOf 1 w4 vj [.iface 43 (.pointer (some ⟨b, o, none⟩)), .iface 52 (.pointer (some ⟨wr.heap.size, 0, none⟩))] := by
                          refine .inr ⟨_, [[.iface 43 (.pointer (some ⟨b, o, none⟩))], [.iface 52 (.pointer (some ⟨wr.heap.size, 0, none⟩))]], hj, rfl, ?_, rfl, by simp⟩
                          intro i hi
                          by_cases e : i = 0
                          · subst e
                            exact .inr (.inl ⟨_, rfl, rfl⟩)
                          · obtain rfl : i = 1 := by have hi' : i < 2 := hi; omega
                            exact .inr (.inr ⟨_, rfl, rfl⟩)
                        have HP7 : Hid (PartsCall w4 vj [.iface 43 (.pointer (some ⟨b, o, none⟩)), .iface 52 (.pointer (some ⟨wr.heap.size, 0, none⟩))]) := parts_any 1 w4 vj _ hP7 (by simp)
                        clear hP7 hj hbj hbn hbW6
                        go_wp2_with fail
                        refine Calls.mono HP7.out ?_
                        rintro e w5 ⟨sv, rfl, hown, hb8⟩
                        obtain ⟨g3, c3, rfl, -, -, hcs⟩ := own_some hown (by simp)
                        have hd0 : w5.cell? ⟨g3, 0, none⟩ = some (.iface 43 (.pointer (some ⟨b, o, none⟩))) := hcs 0 .nilIface (by simp)
                        have hd1 : w5.cell? ⟨g3, 1, none⟩ = some (.iface 52 (.pointer (some ⟨wr.heap.size, 0, none⟩))) := hcs 1 .nilIface (by simp)
                        have HL : Hid (Lay w5 s 0 (.iface 52 (.pointer (some ⟨wr.heap.size, 0, none⟩)))) := ⟨_, _, rfl, cell_later hb8 hcs4⟩
                        have hbW8 : Below w.heap.size w w5 := hbw.trans ((hbW7.trans (hb8.mono hbW7.size)).mono hbw.size)
                        clear hcs hown HP7 hcs4 hb8 hbW7
                        go_wp2_with (first | (go_at_call 11; refine (same43 _ _).mono ?_; rintro e w2 ⟨rfl, hw2⟩; subst w2) | (go_at_call 12; refine (zztext _ _ 0 _ HL.out).mono ?_; rintro e w2 ⟨rfl, hw2⟩; subst w2) | (go_at_call 13; refine (zzunwrap52 _ _).mono ?_; rintro e w2 ⟨rfl, hw2⟩; subst w2))
                        go_ret
                        exact ⟨rfl, hbW8⟩
end Go.Proofs.Qxb6605765a
