/-
  THE PROOF OF 'Rows.FnPartsFlattensNestedJoinsSaid': the guide's frame at this function; the walk: Qxb6605765aNestWalk.
-/
import Derived.Test.Qxb6605765aRows
import Derived.Test.Qxb6605765aNestWalk
import Derived.Test.Qxb6605765aOpen
import Derived.WalkKit
import Derived.ProofKit
import Derived.OpenShut
import Derived.ShutString
import Derived.ChangeOld
import Derived.Below
namespace Go.Proofs.Qxb6605765a.fnPartsFlattensNestedJoins
open Go.ChangeShapes Go.WideShapes Go.ChangeAt Go.RowKit
set_option linter.unusedVariables false

theorem own : ownKnob Try.prog.godebug = none := by kernel_rfl
theorem laidOut : laidOutB Try.prog = true := by kernel_rfl

theorem walk (a : Option Addr) (len cap : Nat) (gs : List (List Value)) (am : Option Addr) (lm cm : Nat) (ys : List Value) (w : World) (h : IsGroups w a len gs) (hs : Strs len gs) (hm : len ≤ maxLen) (hml : ∀ i, i < len → (gs.getD i []).length ≤ maxLen)
    (hy : IsRow w am lm ys) (hys : ∀ i, i < lm → ∃ s, ys.getD i .nilIface = .bool s) (hlm : lm ≤ maxLen) :
    Calls Try.prog 6 #[.slice a len cap, .slice am lm cm] w (Done w) := by
  by_cases h1 : len ≤ 1024
  · by_cases h2 : lm ≤ 65536
    · exact nest_in a len cap gs am lm cm ys w h hs hml hy hys h1 h2
    · exact nest_out a len cap gs am lm cm w h hs hm hml hlm (.inr ⟨h1, by omega⟩)
  · exact nest_out a len cap gs am lm cm w h hs hm hml hlm (.inl (by omega))

/-- From the rows as they were read to the groups as the walk is told of them. -/
theorem groups_of {W : World} {a : Option Addr} {len : Nat} {xs : List Value} (h1 : IsRow W a len xs)
    (h : ∀ i, i < len → ∃ a' l c ys, xs.getD i .nilIface = .slice a' l c ∧ IsRow W a' l ys ∧ (∀ i, i < l → ∃ s, ys.getD i .nilIface = .string s) ∧ l ≤ maxLen) :
    ∃ gs, IsGroups W a len gs ∧ Strs len gs ∧ ∀ i, i < len → (gs.getD i []).length ≤ maxLen := by
  have hch : ∃ f : Nat → List Value, ∀ i, i < len → ∃ a' c, xs.getD i .nilIface = .slice a' (f i).length c ∧ IsRow W a' (f i).length (f i) ∧ (∀ j, j < (f i).length → ∃ s, (f i).getD j .nilIface = .string s) ∧ (f i).length ≤ maxLen := by
    refine ⟨fun i => if hi : i < len then (h i hi).choose_spec.choose_spec.choose_spec.choose else [], fun i hi => ?_⟩
    simp only [hi, dif_pos]
    have hsp := (h i hi).choose_spec.choose_spec.choose_spec.choose_spec
    have hl := hsp.2.1.1
    rw [hl]
    exact ⟨_, _, hsp.1, hsp.2.1, hsp.2.2.1, hsp.2.2.2⟩
  obtain ⟨f, hf⟩ := hch
  have hg : ∀ i, i < len → ((List.range len).map f).getD i [] = f i := by
    intro i hi
    simp [List.getD_eq_getElem?_getD, hi]
  refine ⟨(List.range len).map f, ⟨by simp, fun hp => ?_⟩, fun i hi => ?_, fun i hi => ?_⟩
  · obtain ⟨b, o, ha, hc⟩ := h1.2 hp
    refine ⟨b, o, ha, fun i hi => ?_⟩
    obtain ⟨a', c, e, hr, _⟩ := hf i hi
    rw [hg i hi]
    exact ⟨a', c, by rw [hc i hi, e], hr⟩
  · rw [hg i hi]
    obtain ⟨a', c, e, hr, hs, _⟩ := hf i hi
    exact hs
  · rw [hg i hi]
    obtain ⟨a', c, e, hr, hs, hl⟩ := hf i hi
    exact hl

set_option maxRecDepth 100000 in
theorem lifted (os : Os) (started : os.Started) (H : Type) (enc : TypeId × Value → H) :
    ReturnsInHanded {} Try.checked os 6 .any (Rows.fnPartsFlattensNestedJoinsSpec.pre6 enc Try.prog Try.f6 Rows.fnPartsFlattensNestedJoinsRow.domain false) (Rows.fnPartsFlattensNestedJoinsSpec.post enc Try.prog Try.f6 false true false false) := by
  refine returnsInHanded_of_change (C := Try.checked) own started (by kernel_rfl) Try.func6
    (ChangeSpec.witness6 (enc := enc) (C := Try.checked) false ⟨#[], #[.slice none 0 0, .slice none 0 0], []⟩ 8 (by kernel_rfl) (by kernel_rfl) (by kernel_rfl) (by kernel_rfl)) ?_
  intro W base args ds gs before hval0 hW hcnd _
  have hval : ∀ (j : Nat) t v, Try.f6.params[j]? = some t → args[j]? = some v → Value.okWide Try.prog W .any base t v := hval0
  have hW' := hW
  obtain ⟨p, q, hA0, hV, rfl, hfz, hnd⟩ := hW
  have hA : DataW.TrodAll enc Try.prog W 0 (fun _ => true) true Try.f6.params.toList args.toList ds p := hA0
  rw [Try.params6] at hA hval
  obtain ⟨v0, vs0, d0, ds0, p0, q0, hargs, rfl, rfl, h0, r0⟩ := trodAll_cons hA
  obtain ⟨v1, vs1, d1, ds1, p1, q1, rfl, rfl, rfl, h1, r1⟩ := trodAll_cons r0
  obtain ⟨rfl, rfl, rfl⟩ := trodAll_nil r1
  obtain rfl : args = #[v0, v1] := by cases args; simp_all
  obtain ⟨rfl, rfl⟩ := trodVars_none hV
  obtain ⟨a0, len0, cap0, rfl⟩ := okWide_slice Try.underlying40 (hval 0 40 v0 rfl rfl)
  obtain ⟨a1, len1, cap1, rfl⟩ := okWide_slice Try.underlying35 (hval 1 35 v1 rfl rfl)
  have k0 := h0
  have k1 := h1
  have lt0 : ∀ x ∈ p0, x.block < W.heap.size := by obtain ⟨m, hm⟩ := k0; exact DataW.trod_lt m _ _ _ hm
  have lt1 : ∀ x ∈ p1, x.block < W.heap.size := by obtain ⟨m, hm⟩ := k1; exact DataW.trod_lt m _ _ _ hm
  obtain ⟨gs, hrow, hstr, hlen, hlens⟩ : ∃ gs, IsGroups W a0 len0 gs ∧ Strs len0 gs ∧ len0 ≤ maxLen ∧ ∀ i, i < len0 → (gs.getD i []).length ≤ maxLen := by
    obtain ⟨fuel, hf⟩ := h0
    obtain ⟨xs, h1, h2, h3⟩ := row_groups hf
    obtain ⟨gs, g1, g2, g3⟩ := groups_of h1 h3
    exact ⟨gs, g1, g2, h2, g3⟩
  obtain ⟨ys, hrowy, hbool, hleny⟩ : ∃ ys, IsRow W a1 len1 ys ∧ (∀ i, i < len1 → ∃ s, ys.getD i .nilIface = .bool s) ∧ len1 ≤ maxLen := by obtain ⟨fuel, hf⟩ := h1; exact row_bools hf
  clear hA0 hval0
  refine (walk a0 len0 cap0 gs a1 len1 cap1 ys W hrow hstr hlen hlens hrowy hbool hleny).mono fun e W' ⟨he, bel⟩ => ?_
  subst he
  exact ⟨_, rfl, _, _, _, [], _, [], hW', trodAll_mk1 (shut_bool Try.underlying4 _), (trodAll_cons_mk (Below.trod laidOut (by kernel_rfl) (of_decide_eq_true (by kernel_rfl)) k0 bel lt0) (trodAll_cons_mk (Below.trod laidOut (by kernel_rfl) (of_decide_eq_true (by kernel_rfl)) k1 bel lt1) trodAll_mk0)), rfl, bel.frame _, fun h => by cases h⟩

theorem over : Rows.fnPartsFlattensNestedJoinsRow.holds Try.pinned (OpenSpec.ofChange Rows.fnPartsFlattensNestedJoinsSpec) :=
  OpenClaim.holds_of_wide 6 Try.f6 rfl rfl rfl rfl rfl rfl rfl ⟨rfl, rfl, rfl, rfl, rfl⟩ rfl rfl rfl rfl rfl (by kernel_rfl) Try.func6 (by kernel_rfl)
    (of_decide_eq_true (by kernel_rfl)) (by unfold Func.isWrapper; first | (rw [if_pos (by decide +kernel)]; kernel_rfl) | (rw [if_neg (by decide +kernel)]; exact ⟨rfl, rfl⟩))
    (fun os started H enc _ => lifted os started H enc)

/-- ████ THE STATEMENT ████ -/
theorem proved : Rows.FnPartsFlattensNestedJoinsSaid := over
end Go.Proofs.Qxb6605765a.fnPartsFlattensNestedJoins
