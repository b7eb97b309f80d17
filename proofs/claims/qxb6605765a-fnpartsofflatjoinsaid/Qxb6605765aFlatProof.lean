/-
  THE PROOF OF 'Rows.FnPartsOfFlatJoinSaid': the guide's frame at this function; the walk: Qxb6605765aFlatWalk.
-/
import Derived.Test.Qxb6605765aRows
import Derived.Test.Qxb6605765aFlatWalk
import Derived.Test.Qxb6605765aOpen
import Derived.WalkKit
import Derived.ProofKit
import Derived.OpenShut
import Derived.ShutString
import Derived.ChangeOld
import Derived.Below
namespace Go.Proofs.Qxb6605765a.fnPartsOfFlatJoin
open Go.ChangeShapes Go.WideShapes Go.ChangeAt Go.RowKit
set_option linter.unusedVariables false

theorem own : ownKnob Try.prog.godebug = none := by kernel_rfl
theorem laidOut : laidOutB Try.prog = true := by kernel_rfl

theorem walk (a : Option Addr) (len cap : Nat) (xs : List Value) (am : Option Addr) (lm cm : Nat) (ys : List Value) (w : World) (h : IsRow w a len xs) (hs : ∀ i, i < len → ∃ s, xs.getD i .nilIface = .string s) (hm : len ≤ maxLen)
    (hy : IsRow w am lm ys) (hys : ∀ i, i < lm → ∃ s, ys.getD i .nilIface = .bool s) (hlm : lm ≤ maxLen) :
    Calls Try.prog 5 #[.slice a len cap, .slice am lm cm] w (Done w) := by
  by_cases h1 : len ≤ 65536
  · by_cases h2 : lm ≤ 65536
    · exact flat_in a len cap xs am lm cm ys w h hs hy hys h1 h2
    · exact flat_out a len cap xs am lm cm w h hs hm hlm (.inr ⟨h1, by omega⟩)
  · exact flat_out a len cap xs am lm cm w h hs hm hlm (.inl (by omega))

set_option maxRecDepth 100000 in
theorem lifted (os : Os) (started : os.Started) (H : Type) (enc : TypeId × Value → H) :
    ReturnsInHanded {} Try.checked os 5 .any (Rows.fnPartsOfFlatJoinSpec.pre6 enc Try.prog Try.f5 Rows.fnPartsOfFlatJoinRow.domain false) (Rows.fnPartsOfFlatJoinSpec.post enc Try.prog Try.f5 false true false false) := by
  refine returnsInHanded_of_change (C := Try.checked) own started (by kernel_rfl) Try.func5
    (ChangeSpec.witness6 (enc := enc) (C := Try.checked) false ⟨#[], #[.slice none 0 0, .slice none 0 0], []⟩ 8 (by kernel_rfl) (by kernel_rfl) (by kernel_rfl) (by kernel_rfl)) ?_
  intro W base args ds gs before hval0 hW hcnd _
  have hval : ∀ (j : Nat) t v, Try.f5.params[j]? = some t → args[j]? = some v → Value.okWide Try.prog W .any base t v := hval0
  have hW' := hW
  obtain ⟨p, q, hA0, hV, rfl, hfz, hnd⟩ := hW
  have hA : DataW.TrodAll enc Try.prog W 0 (fun _ => true) true Try.f5.params.toList args.toList ds p := hA0
  rw [Try.params5] at hA hval
  obtain ⟨v0, vs0, d0, ds0, p0, q0, hargs, rfl, rfl, h0, r0⟩ := trodAll_cons hA
  obtain ⟨v1, vs1, d1, ds1, p1, q1, rfl, rfl, rfl, h1, r1⟩ := trodAll_cons r0
  obtain ⟨rfl, rfl, rfl⟩ := trodAll_nil r1
  obtain rfl : args = #[v0, v1] := by cases args; simp_all
  obtain ⟨rfl, rfl⟩ := trodVars_none hV
  obtain ⟨a0, len0, cap0, rfl⟩ := okWide_slice Try.underlying31 (hval 0 31 v0 rfl rfl)
  obtain ⟨a1, len1, cap1, rfl⟩ := okWide_slice Try.underlying35 (hval 1 35 v1 rfl rfl)
  have k0 := h0
  have k1 := h1
  have lt0 : ∀ x ∈ p0, x.block < W.heap.size := by obtain ⟨m, hm⟩ := k0; exact DataW.trod_lt m _ _ _ hm
  have lt1 : ∀ x ∈ p1, x.block < W.heap.size := by obtain ⟨m, hm⟩ := k1; exact DataW.trod_lt m _ _ _ hm
  obtain ⟨xs, hrow, hstr, hlen⟩ : ∃ xs, IsRow W a0 len0 xs ∧ (∀ i, i < len0 → ∃ s, xs.getD i .nilIface = .string s) ∧ len0 ≤ maxLen := by obtain ⟨fuel, hf⟩ := h0; exact row_strings hf
  obtain ⟨ys, hrowy, hbool, hleny⟩ : ∃ ys, IsRow W a1 len1 ys ∧ (∀ i, i < len1 → ∃ s, ys.getD i .nilIface = .bool s) ∧ len1 ≤ maxLen := by obtain ⟨fuel, hf⟩ := h1; exact row_bools hf
  clear hA0 hval0
  refine (walk a0 len0 cap0 xs a1 len1 cap1 ys W hrow hstr hlen hrowy hbool hleny).mono fun e W' ⟨he, bel⟩ => ?_
  subst he
  exact ⟨_, rfl, _, _, _, [], _, [], hW', trodAll_mk1 (shut_bool Try.underlying4 _), (trodAll_cons_mk (Below.trod laidOut (by kernel_rfl) (of_decide_eq_true (by kernel_rfl)) k0 bel lt0) (trodAll_cons_mk (Below.trod laidOut (by kernel_rfl) (of_decide_eq_true (by kernel_rfl)) k1 bel lt1) trodAll_mk0)), rfl, bel.frame _, fun h => by cases h⟩

theorem over : Rows.fnPartsOfFlatJoinRow.holds Try.pinned (OpenSpec.ofChange Rows.fnPartsOfFlatJoinSpec) :=
  OpenClaim.holds_of_wide 5 Try.f5 rfl rfl rfl rfl rfl rfl rfl ⟨rfl, rfl, rfl, rfl, rfl⟩ rfl rfl rfl rfl rfl (by kernel_rfl) Try.func5 (by kernel_rfl)
    (of_decide_eq_true (by kernel_rfl)) (by unfold Func.isWrapper; first | (rw [if_pos (by decide +kernel)]; kernel_rfl) | (rw [if_neg (by decide +kernel)]; exact ⟨rfl, rfl⟩))
    (fun os started H enc _ => lifted os started H enc)

/-- ████ THE STATEMENT ████ -/
theorem proved : Rows.FnPartsOfFlatJoinSaid := over
end Go.Proofs.Qxb6605765a.fnPartsOfFlatJoin
