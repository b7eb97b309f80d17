/-
  THE PROOF OF 'Rows.FnRetryableMarkCoversWholeJoinSaid': the guide's frame at this function; the walk: Qxb6605765aMarkWalk.
-/
import Derived.Test.Qxb6605765aRows
import Derived.Test.Qxb6605765aMarkWalk
import Derived.Test.Qxb6605765aOpen
import Derived.WalkKit
import Derived.ProofKit
import Derived.OpenShut
import Derived.ShutString
import Derived.ChangeOld
import Derived.Below
namespace Go.Proofs.Qxb6605765a.fnRetryableMarkCoversWholeJoin
open Go.ChangeShapes Go.WideShapes Go.ChangeAt Go.RowKit
open Go.ChangeMaps (open_string shut_string)
set_option linter.unusedVariables false

theorem own : ownKnob Try.prog.godebug = none := by kernel_rfl
theorem laidOut : laidOutB Try.prog = true := by kernel_rfl

theorem walk (a : Option Addr) (len cap : Nat) (xs : List Value) (s : ByteArray) (n : Int) (w : World) (h : IsRow w a len xs) (hs : ∀ i, i < len → ∃ s, xs.getD i .nilIface = .string s) (hm : len ≤ maxLen) :
    Calls Try.prog 4 #[.slice a len cap, .string s, .int .i64 n] w (Done w) := by
  by_cases h1 : len ≤ 1024
  · by_cases h2 : s.size ≤ 1048576
    · by_cases h3 : 1 ≤ n
      · by_cases h4 : n ≤ 1024
        · obtain ⟨m, rfl⟩ := Int.eq_ofNat_of_zero_le (show 0 ≤ n by omega)
          exact mark_in a len cap xs s m w h hs h1 h2 (by omega) (by omega)
        · exact mark_out a len cap xs s n w h hs hm (.inr (.inr (.inr ⟨h1, h2, h3, by omega⟩)))
      · exact mark_out a len cap xs s n w h hs hm (.inr (.inr (.inl ⟨h1, h2, by omega⟩)))
    · exact mark_out a len cap xs s n w h hs hm (.inr (.inl ⟨h1, by omega⟩))
  · exact mark_out a len cap xs s n w h hs hm (.inl (by omega))

set_option maxRecDepth 100000 in
theorem lifted (os : Os) (started : os.Started) (H : Type) (enc : TypeId × Value → H) :
    ReturnsInHanded {} Try.checked os 4 .any (Rows.fnRetryableMarkCoversWholeJoinSpec.pre6 enc Try.prog Try.f4 Rows.fnRetryableMarkCoversWholeJoinRow.domain false) (Rows.fnRetryableMarkCoversWholeJoinSpec.post enc Try.prog Try.f4 false true false false) := by
  refine returnsInHanded_of_change (C := Try.checked) own started (by kernel_rfl) Try.func4
    (ChangeSpec.witness6 (enc := enc) (C := Try.checked) false ⟨#[], #[.slice none 0 0, .string ByteArray.empty, .int .i64 0], []⟩ 8 (by kernel_rfl) (by kernel_rfl) (by kernel_rfl) (by kernel_rfl)) ?_
  intro W base args ds gs before hval0 hW hcnd _
  have hval : ∀ (j : Nat) t v, Try.f4.params[j]? = some t → args[j]? = some v → Value.okWide Try.prog W .any base t v := hval0
  have hW' := hW
  obtain ⟨p, q, hA0, hV, rfl, hfz, hnd⟩ := hW
  have hA : DataW.TrodAll enc Try.prog W 0 (fun _ => true) true Try.f4.params.toList args.toList ds p := hA0
  rw [Try.params4] at hA hval
  obtain ⟨v0, vs0, d0, ds0, p0, q0, hargs, rfl, rfl, h0, r0⟩ := trodAll_cons hA
  obtain ⟨v1, vs1, d1, ds1, p1, q1, rfl, rfl, rfl, h1, r1⟩ := trodAll_cons r0
  obtain ⟨v2, vs2, d2, ds2, p2, q2, rfl, rfl, rfl, h2, r2⟩ := trodAll_cons r1
  obtain ⟨rfl, rfl, rfl⟩ := trodAll_nil r2
  obtain rfl : args = #[v0, v1, v2] := by cases args; simp_all
  obtain ⟨rfl, rfl⟩ := trodVars_none hV
  obtain ⟨a0, len0, cap0, rfl⟩ := okWide_slice Try.underlying31 (hval 0 31 v0 rfl rfl)
  have k0 := h0
  have lt0 : ∀ x ∈ p0, x.block < W.heap.size := by obtain ⟨m, hm⟩ := k0; exact DataW.trod_lt m _ _ _ hm
  obtain ⟨xs, hrow, hstr, hlen⟩ : ∃ xs, IsRow W a0 len0 xs ∧ (∀ i, i < len0 → ∃ s, xs.getD i .nilIface = .string s) ∧ len0 ≤ maxLen := by obtain ⟨fuel, hf⟩ := h0; exact row_strings hf
  obtain ⟨a1, rfl, rfl, rfl, w1⟩ := open_string Try.underlying9 (hval 1 9 v1 rfl rfl) h1
  obtain ⟨a2, rfl, rfl, rfl, w2⟩ := open_int Try.underlying3 (hval 2 3 v2 rfl rfl) h2
  clear hA0 hval0
  refine (walk a0 len0 cap0 xs a1 a2 W hrow hstr hlen).mono fun e W' ⟨he, bel⟩ => ?_
  subst he
  exact ⟨_, rfl, _, _, _, [], _, [], hW', trodAll_mk1 (shut_bool Try.underlying4 _), (trodAll_cons_mk (Below.trod laidOut (by kernel_rfl) (of_decide_eq_true (by kernel_rfl)) k0 bel lt0) (trodAll_cons_mk (shut_string Try.underlying9 w1) (trodAll_cons_mk (shut_int Try.underlying3 w2) trodAll_mk0))), rfl, bel.frame _, fun h => by cases h⟩

theorem over : Rows.fnRetryableMarkCoversWholeJoinRow.holds Try.pinned (OpenSpec.ofChange Rows.fnRetryableMarkCoversWholeJoinSpec) :=
  OpenClaim.holds_of_wide 4 Try.f4 rfl rfl rfl rfl rfl rfl rfl ⟨rfl, rfl, rfl, rfl, rfl⟩ rfl rfl rfl rfl rfl (by kernel_rfl) Try.func4 (by kernel_rfl)
    (of_decide_eq_true (by kernel_rfl)) (by unfold Func.isWrapper; first | (rw [if_pos (by decide +kernel)]; kernel_rfl) | (rw [if_neg (by decide +kernel)]; exact ⟨rfl, rfl⟩))
    (fun os started H enc _ => lifted os started H enc)

/-- ████ THE STATEMENT ████ -/
theorem proved : Rows.FnRetryableMarkCoversWholeJoinSaid := over
end Go.Proofs.Qxb6605765a.fnRetryableMarkCoversWholeJoin
