/-
  Parts, by its contract: for an error whose parts are ps (PartsOf) a new slice of ps.
-/
import Derived.Test.Qxb6605765aJoin
import Derived.Laws.AppendOwnNone
namespace Go.Proofs.Qxb6605765a
open Go.RowKit

theorem own_one (w : World) (v : Value) : (w.alloc (.cells #[v] 24)).ownsRow w.heap.size 24 1 (.slice (some ⟨w.heap.size, 0, none⟩) 1 1) 1 [v] :=
  ⟨rfl, .inr ⟨w.heap.size, 1, #[v], rfl, Nat.le_refl _, heap_alloc_new w _, Nat.le_refl _, by unfold maxLen; omega, rfl, rfl⟩⟩

/-- The contract of Parts at one value. -/
def PartsCall (w : World) (v : Value) (ps : List Value) : Prop :=
  Calls Try.prog 10 #[v] w fun e w' => ∃ sv, e = .returned sv ∧ w'.ownsRow w.heap.size 24 1 sv ps.length ps ∧ Below w.heap.size w w'

theorem parts_zero (w : World) (v : Value) (ps : List Value) (h : PartsOf 0 w v ps) : PartsCall w v ps := by
  rcases h with ⟨rfl, rfl⟩ | ⟨x, rfl, rfl⟩ | ⟨x, rfl, rfl⟩
  · exact (parts_nil w).mono fun e w' ⟨he, hw⟩ => by subst hw; exact ⟨_, he, World.ownsRow_nil _ _ _ _, Below.refl _ _⟩
  · exact (parts43 x w).mono fun e w' ⟨he, hw⟩ => by subst hw; exact ⟨_, he, own_one w _, (Below.refl _ _).alloc (Nat.le_refl _) _⟩
  · exact (parts52 x w).mono fun e w' ⟨he, hw⟩ => by subst hw; exact ⟨_, he, own_one w _, (Below.refl _ _).alloc (Nat.le_refl _) _⟩

theorem flatten_take (pss : List (List Value)) (k : Nat) (h : k < pss.length) : (pss.take (k + 1)).flatten = (pss.take k).flatten ++ pss.getD k [] := by
  rw [List.take_succ_eq_append_getElem h, List.flatten_append, List.getD_eq_getElem?_getD, List.getElem?_eq_getElem h]
  simp

theorem flatten_take_le (pss : List (List Value)) (k : Nat) : (pss.take k).flatten.length ≤ pss.flatten.length := by
  conv => rhs; rw [← List.take_append_drop k pss]
  rw [List.flatten_append, List.length_append]
  omega

theorem parts_join (w : World) (v : Value) (vs : List Value) (pss : List (List Value)) (hj : IsJoin w v vs) (hl : pss.length = vs.length) (hsz : pss.flatten.length ≤ 4194304) (hne : pss.flatten ≠ [])
    (hp : ∀ i, i < vs.length → ∀ wr, Below w.heap.size w wr → PartsCall wr (vs.getD i .nilIface) (pss.getD i []))
    (hif : ∀ i, i < vs.length → ∀ p ∈ pss.getD i [], ∃ t x, p = .iface t x) (hv : ∀ i, i < vs.length → IsErr (vs.getD i .nilIface)) : PartsCall w v pss.flatten := by
  obtain ⟨i0, hi, hz0, hz1, hz2⟩ := info_parts info24
  obtain ⟨b, g, c, rfl, hb1, hb2, hb3⟩ := hj
  unfold maxLen at hb2
  unfold PartsCall
  have a1 := assert43_56
  have a2 := assert46_56
  have m1 := method56u
  have HP : Hid (∀ i, i < vs.length → ∀ wr, Below w.heap.size w wr → PartsCall wr (vs.getD i .nilIface) (pss.getD i [])) := hp
  have HIF : Hid (∀ i, i < vs.length → ∀ p ∈ pss.getD i [], ∃ t x, p = .iface t x) := hif
  have HB3 : Hid (∀ i, i < vs.length → w.cell? ⟨g, i, none⟩ = some (vs.getD i .nilIface)) := hb3
  have HLP : Hid (pss.length = vs.length) := hl
  have HNE : Hid (pss.flatten ≠ []) := hne
  have HV : Hid (∀ i, i < vs.length → IsErr (vs.getD i .nilIface)) := hv
  clear hp hif hb3 hl hne hv
  generalize hn : vs.length = n at *
  have HN : Hid (vs.length = n) := hn
  clear hn
  go_enter Try.func10, Try.ntmps10
  go_wp2_with fail
  refine wp_loop_rounds 1 ?_
  rw [rounds_succ]
  go_wp2_with (go_at_call 45; refine (unwrapJ _ _ _ _ _ _ hb1).mono ?_; rintro e w1 ⟨rfl, hw1⟩; subst w1)
  go_loopw [6, 25] (fun p i wr => ∃ k : Nat, k ≤ n ∧ i = .int .i64 k ∧ wr.ownsRow w.heap.size 24 1 p (pss.take k).flatten.length (pss.take k).flatten ∧ Below w.heap.size w wr)
    (fun _ i _ => n - (intOf i).toNat)
  case atStart => exact ⟨0, Nat.zero_le _, rfl, World.ownsRow_nil _ _ _ _, Below.refl _ _⟩
  case round =>
    obtain ⟨k, hk, rfl, hown, hb⟩ := hrel
    by_cases hlt : k < n
    · have hck : wr.cell? ⟨g, k, none⟩ = some (vs.getD k .nilIface) := by
        have := HB3.out k hlt
        exact (hb.cell (World.block_lt_of_cell? _ _ this)).trans this
      have HC : Hid (PartsCall wr (vs.getD k .nilIface) (pss.getD k [])) := HP.out k hlt wr hb
      have hv := HV.out k hlt
      have hone := HIF.out k hlt
      have hkl : k < pss.length := by rw [HLP.out]; exact hlt
      have hfl := flatten_take pss k hkl
      have hle := flatten_take_le pss (k + 1)
      rw [hfl] at hle
      generalize hu : vs.getD k .nilIface = u at *
      generalize hx : (pss.take k).flatten = xs at *
      generalize hy : pss.getD k [] = ys at *
      have HFL : Hid ((pss.take (k + 1)).flatten = xs ++ ys) := hfl
      rw [List.length_append] at hle
      have hsum : xs.length + ys.length ≤ 4194304 := Nat.le_trans hle hsz
      have HONE : Hid (∀ u ∈ ys, u.oneCell' = true) := by
        intro u hu
        obtain ⟨t, x, rfl⟩ := hone u hu
        rfl
      clear hu hx hy hfl hone hle hkl
      rcases hv with rfl | ⟨t, x, rfl⟩
      all_goals
        go_wp2_with fail
        refine Calls.mono HC.out ?_
        rintro e w1 ⟨sv, rfl, hown1, hbel⟩
        have hownw : w1.ownsRow w.heap.size 24 1 _ _ _ := own_later hown hbel
        have hbw : Below w.heap.size w w1 := hb.trans (hbel.mono hb.size)
        clear HC hck
        rcases own_split hown1 with ⟨rfl, -, rfl⟩ | ⟨g2, c2, rfl, hcs⟩
        · clear hown1 hown hbel
          go_wp2_with (at_builtin; refine wpList_append_own_none rfl (.tmp 29) (.tmp 31) 27 rfl w.heap.size 24 i0 1 Try.underlying27 hi _ _ _ rfl hownw rfl ?_)
          go_roundw
          case rel => exact ⟨k + 1, by omega, by go_num, by rw [HFL.out, List.append_nil]; exact hownw, hbw⟩
          case measure => simp [intOf]; omega
        · have HCS : Hid (∀ j u, ys[j]? = some u → w1.cell? ((⟨g2, 0, none⟩ : Addr).add j) = some u) := hcs
          clear hcs hown1 hown hbel
          go_wp2_with (at_builtin; refine wpList_append_own _ rfl (.tmp 29) (.tmp 31) 27 rfl w.heap.size 24 i0 .nilIface 1 16 Try.underlying27 hi hz0 hz1 hz2 rfl (by decide) _ _ _ rfl hownw ⟨g2, 0, none⟩ ys.length c2 ys rfl (by simp) HCS.out HONE.out ?_ ?_ hbw.size ?_)
          · unfold maxLen; omega
          · omega
          intro v' w2 hown' hgrow' hnn
          have hb2 : Below w.heap.size w w2 := hbw.grown hgrow' hbw.size (fun k hk => (hownw.lt k hk).1)
          clear hgrow' hnn HCS hownw hbw
          go_wp2
          go_roundw
          case rel => exact ⟨k + 1, by omega, by go_num, by rw [HFL.out, List.length_append]; exact hown', hb2⟩
          case measure => simp [intOf]; omega
    · have e : pss.take k = pss := List.take_of_length_le (by rw [HLP.out]; omega)
      rw [e] at hown
      have hnz : ((pss.flatten.length : Int) == 0) = false := by
        have : pss.flatten.length ≠ 0 := fun h => HNE.out (List.eq_nil_of_length_eq_zero h)
        simp only [beq_eq_false_iff_ne]
        omega
      obtain ⟨sa, sc, hsv⟩ := own_form hown
      generalize hq : pss.flatten = q at *
      subst hsv
      have HQ : Hid (pss.flatten = q) := hq
      clear e HNE hq
      go_wp2_with fail
      go_ret
      refine ⟨_, rfl, ?_, hb⟩
      rw [HQ.out]
      exact hown

theorem parts_any : ∀ (d : Nat) (w : World) (v : Value) (ps : List Value), PartsOf d w v ps → ps.length ≤ 4194304 → PartsCall w v ps := by
  intro d
  induction d with
  | zero => intro w v ps h _; exact parts_zero w v ps h
  | succ d ih =>
    rintro w v ps (h | ⟨vs, pss, hj, hl, hp, rfl, hn⟩) hs
    · exact ih w v ps h hs
    · refine parts_join w v vs pss hj hl hs hn (fun i hi wr hb => ih wr _ _ ((hp i hi).later hb) ?_) (fun i hi => (hp i hi).iface) (fun i hi => (hp i hi).isErr)
      have hkl : i < pss.length := by rw [hl]; exact hi
      have h1 := flatten_take_le pss (i + 1)
      rw [flatten_take pss i hkl, List.length_append] at h1
      omega
end Go.Proofs.Qxb6605765a
