/-
  No cell of these rows narrows 'for every input' (looked for: loops, veiled, ifaces, maps, wideKeys, modest, calm, conditions, laid).
  DERIVED. THE GIVEN ROWS OF THIS SEAT. 4 by the template 'for every input the law returns true; each argument reads behind the call as it read before'; 0 by the template 'total and deterministic' (their statements: Qxb6605765aTotals.lean).
  GIVEN WITH THE SEED: the statements are not yours to turn. If you find one false, say at which input.
  Laid BY PROGRAM, IN A SANDBOX (cutbox-rows.mjs): the forced cells as the released guide's own fill.sh prints them over the translation b8e4cdfc3f8b1ef0… (all of the seat's roots in one cut). By AI agents, Wed Nov 11 2026. No macro, syntax, notation, axiom, sorry.
-/
import Derived.Test.Qxb6605765aChecked
import GoSem.Claim
import GoSem.ClaimJoined
import GoSem.ClaimMapViews
import Derived.JoinedTies
import Derived.KernelRfl
namespace Go.Proofs.Qxb6605765a
/- THE CELL 'sum', in the pinned program and in every row, IS THE sha256 OF THE DUMP (.gsa) THAT Qxb6605765aProg.lean LOADS. Nothing in Lean hashes anything: it is a label: what it is worth is what the hold of that sum in a sandbox is worth. -/
noncomputable def Try.pinned : Pinned := { name := "qxb6605765a", sum := "b8e4cdfc3f8b1ef0617d77351dde0fa5c43e542a4f2d5a6eee011c7272f7c70c", checked := Try.checked }
namespace Rows
def none {H : Type} : Left H := { results := [], args := [] }

/-- 'zzlaws_root_b1.FnRetryableLayersKeepTextAndChain': WHATEVER THE INPUT: true; the input reads as it did. -/
def fnRetryableLayersKeepTextAndChainSpec : ChangeSpec := { name := "fnRetryableLayersKeepTextAndChain", fn := fun _ => fun
  | [d1, d2] => { results := [.lit (.bool true)], args := [d1, d2] }
  | _ => none }
def fnRetryableLayersKeepTextAndChainRow : OpenClaim := { program := "qxb6605765a", sum := "b8e4cdfc3f8b1ef0617d77351dde0fa5c43e542a4f2d5a6eee011c7272f7c70c", func := "example.com/drover/drover/zzlaws_root_b1.FnRetryableLayersKeepTextAndChain", spec := "fnRetryableLayersKeepTextAndChain", unfollowed := true, recurses := true, apart := false }
def FnRetryableLayersKeepTextAndChainSaid : Prop := fnRetryableLayersKeepTextAndChainRow.holds Try.pinned (OpenSpec.ofChange fnRetryableLayersKeepTextAndChainSpec)

/-- ITS FALSE NEIGHBOUR: 'it returns false'. Refute it at one input. -/
def fnRetryableLayersKeepTextAndChainWrong : ChangeSpec := { name := "fnRetryableLayersKeepTextAndChain", fn := fun _ => fun
  | [d1, d2] => { results := [.lit (.bool false)], args := [d1, d2] }
  | _ => none }
def FnRetryableLayersKeepTextAndChainWrongFalsely : Prop := fnRetryableLayersKeepTextAndChainRow.holds Try.pinned (OpenSpec.ofChange fnRetryableLayersKeepTextAndChainWrong)

/-- 'zzlaws_root_b1.FnRetryableMarkCoversWholeJoin': WHATEVER THE INPUT: true; the input reads as it did. -/
def fnRetryableMarkCoversWholeJoinSpec : ChangeSpec := { name := "fnRetryableMarkCoversWholeJoin", fn := fun _ => fun
  | [d1, d2, d3] => { results := [.lit (.bool true)], args := [d1, d2, d3] }
  | _ => none }
def fnRetryableMarkCoversWholeJoinRow : OpenClaim := { program := "qxb6605765a", sum := "b8e4cdfc3f8b1ef0617d77351dde0fa5c43e542a4f2d5a6eee011c7272f7c70c", func := "example.com/drover/drover/zzlaws_root_b1.FnRetryableMarkCoversWholeJoin", spec := "fnRetryableMarkCoversWholeJoin", unfollowed := true, recurses := true, apart := false }
def FnRetryableMarkCoversWholeJoinSaid : Prop := fnRetryableMarkCoversWholeJoinRow.holds Try.pinned (OpenSpec.ofChange fnRetryableMarkCoversWholeJoinSpec)

/-- ITS FALSE NEIGHBOUR: 'it returns false'. Refute it at one input. -/
def fnRetryableMarkCoversWholeJoinWrong : ChangeSpec := { name := "fnRetryableMarkCoversWholeJoin", fn := fun _ => fun
  | [d1, d2, d3] => { results := [.lit (.bool false)], args := [d1, d2, d3] }
  | _ => none }
def FnRetryableMarkCoversWholeJoinWrongFalsely : Prop := fnRetryableMarkCoversWholeJoinRow.holds Try.pinned (OpenSpec.ofChange fnRetryableMarkCoversWholeJoinWrong)

/-- 'zzlaws_root_b1.FnPartsOfFlatJoin': WHATEVER THE INPUT: true; the input reads as it did. -/
def fnPartsOfFlatJoinSpec : ChangeSpec := { name := "fnPartsOfFlatJoin", fn := fun _ => fun
  | [d1, d2] => { results := [.lit (.bool true)], args := [d1, d2] }
  | _ => none }
def fnPartsOfFlatJoinRow : OpenClaim := { program := "qxb6605765a", sum := "b8e4cdfc3f8b1ef0617d77351dde0fa5c43e542a4f2d5a6eee011c7272f7c70c", func := "example.com/drover/drover/zzlaws_root_b1.FnPartsOfFlatJoin", spec := "fnPartsOfFlatJoin", unfollowed := true, recurses := true, apart := false }
def FnPartsOfFlatJoinSaid : Prop := fnPartsOfFlatJoinRow.holds Try.pinned (OpenSpec.ofChange fnPartsOfFlatJoinSpec)

/-- ITS FALSE NEIGHBOUR: 'it returns false'. Refute it at one input. -/
def fnPartsOfFlatJoinWrong : ChangeSpec := { name := "fnPartsOfFlatJoin", fn := fun _ => fun
  | [d1, d2] => { results := [.lit (.bool false)], args := [d1, d2] }
  | _ => none }
def FnPartsOfFlatJoinWrongFalsely : Prop := fnPartsOfFlatJoinRow.holds Try.pinned (OpenSpec.ofChange fnPartsOfFlatJoinWrong)

/-- 'zzlaws_root_b1.FnPartsFlattensNestedJoins': WHATEVER THE INPUT: true; the input reads as it did. -/
def fnPartsFlattensNestedJoinsSpec : ChangeSpec := { name := "fnPartsFlattensNestedJoins", fn := fun _ => fun
  | [d1, d2] => { results := [.lit (.bool true)], args := [d1, d2] }
  | _ => none }
def fnPartsFlattensNestedJoinsRow : OpenClaim := { program := "qxb6605765a", sum := "b8e4cdfc3f8b1ef0617d77351dde0fa5c43e542a4f2d5a6eee011c7272f7c70c", func := "example.com/drover/drover/zzlaws_root_b1.FnPartsFlattensNestedJoins", spec := "fnPartsFlattensNestedJoins", unfollowed := true, recurses := true, apart := false }
def FnPartsFlattensNestedJoinsSaid : Prop := fnPartsFlattensNestedJoinsRow.holds Try.pinned (OpenSpec.ofChange fnPartsFlattensNestedJoinsSpec)

/-- ITS FALSE NEIGHBOUR: 'it returns false'. Refute it at one input. -/
def fnPartsFlattensNestedJoinsWrong : ChangeSpec := { name := "fnPartsFlattensNestedJoins", fn := fun _ => fun
  | [d1, d2] => { results := [.lit (.bool false)], args := [d1, d2] }
  | _ => none }
def FnPartsFlattensNestedJoinsWrongFalsely : Prop := fnPartsFlattensNestedJoinsRow.holds Try.pinned (OpenSpec.ofChange fnPartsFlattensNestedJoinsWrong)

end Rows
end Go.Proofs.Qxb6605765a
