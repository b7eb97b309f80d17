/-
  No cell of these rows narrows 'for every input' (looked for: loops, veiled, ifaces, maps, wideKeys, modest, calm, conditions, laid).
  DERIVED. THE GIVEN ROWS OF THIS SEAT. 6 by the template 'for every input the law returns true; each argument reads behind the call as it read before'; 0 by the template 'total and deterministic' (their statements: Qxb6605806aTotals.lean).
  GIVEN WITH THE SEED: the statements are not yours to turn. If you find one false, say at which input.
  Laid BY PROGRAM, IN A SANDBOX (cutbox-rows.mjs): the forced cells as the released guide's own fill.sh prints them over the translation 75e7dabfdb2e2efd… (all of the seat's roots in one cut). By AI agents, Wed Nov 11 2026. No macro, syntax, notation, axiom, sorry.
-/
import Derived.Test.Qxb6605806aChecked
import GoSem.Claim
import GoSem.ClaimJoined
import GoSem.ClaimMapViews
import Derived.JoinedTies
import Derived.KernelRfl
namespace Go.Proofs.Qxb6605806a
/- THE CELL 'sum', in the pinned program and in every row, IS THE sha256 OF THE DUMP (.gsa) THAT Qxb6605806aProg.lean LOADS. Nothing in Lean hashes anything: it is a label: what it is worth is what the hold of that sum in a sandbox is worth. -/
noncomputable def Try.pinned : Pinned := { name := "qxb6605806a", sum := "75e7dabfdb2e2efd314308998ca5c1c5a895ead7c98965315e6a4068e16539c5", checked := Try.checked }
namespace Rows
def none {H : Type} : Left H := { results := [], args := [] }

/-- 'zzlaws_store_b1.FnNumberPositionalSum': WHATEVER THE INPUT: true; the input reads as it did. -/
def fnNumberPositionalSumSpec : ChangeSpec := { name := "fnNumberPositionalSum", fn := fun _ => fun
  | [d] => { results := [.lit (.bool true)], args := [d] }
  | _ => none }
def fnNumberPositionalSumRow : OpenClaim := { program := "qxb6605806a", sum := "75e7dabfdb2e2efd314308998ca5c1c5a895ead7c98965315e6a4068e16539c5", func := "example.com/quillpath/quillpath/zzlaws_store_b1.FnNumberPositionalSum", spec := "fnNumberPositionalSum", apart := false }
def FnNumberPositionalSumSaid : Prop := fnNumberPositionalSumRow.holds Try.pinned (OpenSpec.ofChange fnNumberPositionalSumSpec)

/-- ITS FALSE NEIGHBOUR: 'it returns false'. Refute it at one input. -/
def fnNumberPositionalSumWrong : ChangeSpec := { name := "fnNumberPositionalSum", fn := fun _ => fun
  | [d] => { results := [.lit (.bool false)], args := [d] }
  | _ => none }
def FnNumberPositionalSumWrongFalsely : Prop := fnNumberPositionalSumRow.holds Try.pinned (OpenSpec.ofChange fnNumberPositionalSumWrong)

/-- 'zzlaws_store_b1.FnNumberFormatRoundTrip': WHATEVER THE INPUT: true; the input reads as it did. -/
def fnNumberFormatRoundTripSpec : ChangeSpec := { name := "fnNumberFormatRoundTrip", fn := fun _ => fun
  | [d1, d2] => { results := [.lit (.bool true)], args := [d1, d2] }
  | _ => none }
def fnNumberFormatRoundTripRow : OpenClaim := { program := "qxb6605806a", sum := "75e7dabfdb2e2efd314308998ca5c1c5a895ead7c98965315e6a4068e16539c5", func := "example.com/quillpath/quillpath/zzlaws_store_b1.FnNumberFormatRoundTrip", spec := "fnNumberFormatRoundTrip", apart := false }
def FnNumberFormatRoundTripSaid : Prop := fnNumberFormatRoundTripRow.holds Try.pinned (OpenSpec.ofChange fnNumberFormatRoundTripSpec)

/-- ITS FALSE NEIGHBOUR: 'it returns false'. Refute it at one input. -/
def fnNumberFormatRoundTripWrong : ChangeSpec := { name := "fnNumberFormatRoundTrip", fn := fun _ => fun
  | [d1, d2] => { results := [.lit (.bool false)], args := [d1, d2] }
  | _ => none }
def FnNumberFormatRoundTripWrongFalsely : Prop := fnNumberFormatRoundTripRow.holds Try.pinned (OpenSpec.ofChange fnNumberFormatRoundTripWrong)

/-- 'zzlaws_store_b1.FnIsHexMembership': WHATEVER THE INPUT: true; the input reads as it did. -/
def fnIsHexMembershipSpec : ChangeSpec := { name := "fnIsHexMembership", fn := fun _ => fun
  | [d] => { results := [.lit (.bool true)], args := [d] }
  | _ => none }
def fnIsHexMembershipRow : OpenClaim := { program := "qxb6605806a", sum := "75e7dabfdb2e2efd314308998ca5c1c5a895ead7c98965315e6a4068e16539c5", func := "example.com/quillpath/quillpath/zzlaws_store_b1.FnIsHexMembership", spec := "fnIsHexMembership", apart := false }
def FnIsHexMembershipSaid : Prop := fnIsHexMembershipRow.holds Try.pinned (OpenSpec.ofChange fnIsHexMembershipSpec)

/-- ITS FALSE NEIGHBOUR: 'it returns false'. Refute it at one input. -/
def fnIsHexMembershipWrong : ChangeSpec := { name := "fnIsHexMembership", fn := fun _ => fun
  | [d] => { results := [.lit (.bool false)], args := [d] }
  | _ => none }
def FnIsHexMembershipWrongFalsely : Prop := fnIsHexMembershipRow.holds Try.pinned (OpenSpec.ofChange fnIsHexMembershipWrong)

/-- 'zzlaws_store_b1.FnIsHexCaseBlindAndCount': WHATEVER THE INPUT: true; the input reads as it did. -/
def fnIsHexCaseBlindAndCountSpec : ChangeSpec := { name := "fnIsHexCaseBlindAndCount", fn := fun _ => fun
  | [d] => { results := [.lit (.bool true)], args := [d] }
  | _ => none }
def fnIsHexCaseBlindAndCountRow : OpenClaim := { program := "qxb6605806a", sum := "75e7dabfdb2e2efd314308998ca5c1c5a895ead7c98965315e6a4068e16539c5", func := "example.com/quillpath/quillpath/zzlaws_store_b1.FnIsHexCaseBlindAndCount", spec := "fnIsHexCaseBlindAndCount", apart := false }
def FnIsHexCaseBlindAndCountSaid : Prop := fnIsHexCaseBlindAndCountRow.holds Try.pinned (OpenSpec.ofChange fnIsHexCaseBlindAndCountSpec)

/-- ITS FALSE NEIGHBOUR: 'it returns false'. Refute it at one input. -/
def fnIsHexCaseBlindAndCountWrong : ChangeSpec := { name := "fnIsHexCaseBlindAndCount", fn := fun _ => fun
  | [d] => { results := [.lit (.bool false)], args := [d] }
  | _ => none }
def FnIsHexCaseBlindAndCountWrongFalsely : Prop := fnIsHexCaseBlindAndCountRow.holds Try.pinned (OpenSpec.ofChange fnIsHexCaseBlindAndCountWrong)

/-- 'zzlaws_store_b1.FnAutnumSelfFirstUncovered': WHATEVER THE INPUT: true; the input reads as it did. -/
def fnAutnumSelfFirstUncoveredSpec : ChangeSpec := { name := "fnAutnumSelfFirstUncovered", fn := fun _ => fun
  | [d1, d2, d3, d4] => { results := [.lit (.bool true)], args := [d1, d2, d3, d4] }
  | _ => none }
def fnAutnumSelfFirstUncoveredRow : OpenClaim := { program := "qxb6605806a", sum := "75e7dabfdb2e2efd314308998ca5c1c5a895ead7c98965315e6a4068e16539c5", func := "example.com/quillpath/quillpath/zzlaws_store_b1.FnAutnumSelfFirstUncovered", spec := "fnAutnumSelfFirstUncovered", unfollowed := true, recurses := true, apart := false }
def FnAutnumSelfFirstUncoveredSaid : Prop := fnAutnumSelfFirstUncoveredRow.holds Try.pinned (OpenSpec.ofChange fnAutnumSelfFirstUncoveredSpec)

/-- ITS FALSE NEIGHBOUR: 'it returns false'. Refute it at one input. -/
def fnAutnumSelfFirstUncoveredWrong : ChangeSpec := { name := "fnAutnumSelfFirstUncovered", fn := fun _ => fun
  | [d1, d2, d3, d4] => { results := [.lit (.bool false)], args := [d1, d2, d3, d4] }
  | _ => none }
def FnAutnumSelfFirstUncoveredWrongFalsely : Prop := fnAutnumSelfFirstUncoveredRow.holds Try.pinned (OpenSpec.ofChange fnAutnumSelfFirstUncoveredWrong)

/-- 'zzlaws_store_b1.FnAutnumSelfLookupAnswersIt': WHATEVER THE INPUT: true; the input reads as it did. -/
def fnAutnumSelfLookupAnswersItSpec : ChangeSpec := { name := "fnAutnumSelfLookupAnswersIt", fn := fun _ => fun
  | [d1, d2, d3, d4] => { results := [.lit (.bool true)], args := [d1, d2, d3, d4] }
  | _ => none }
def fnAutnumSelfLookupAnswersItRow : OpenClaim := { program := "qxb6605806a", sum := "75e7dabfdb2e2efd314308998ca5c1c5a895ead7c98965315e6a4068e16539c5", func := "example.com/quillpath/quillpath/zzlaws_store_b1.FnAutnumSelfLookupAnswersIt", spec := "fnAutnumSelfLookupAnswersIt", unfollowed := true, recurses := true, apart := false }
def FnAutnumSelfLookupAnswersItSaid : Prop := fnAutnumSelfLookupAnswersItRow.holds Try.pinned (OpenSpec.ofChange fnAutnumSelfLookupAnswersItSpec)

/-- ITS FALSE NEIGHBOUR: 'it returns false'. Refute it at one input. -/
def fnAutnumSelfLookupAnswersItWrong : ChangeSpec := { name := "fnAutnumSelfLookupAnswersIt", fn := fun _ => fun
  | [d1, d2, d3, d4] => { results := [.lit (.bool false)], args := [d1, d2, d3, d4] }
  | _ => none }
def FnAutnumSelfLookupAnswersItWrongFalsely : Prop := fnAutnumSelfLookupAnswersItRow.holds Try.pinned (OpenSpec.ofChange fnAutnumSelfLookupAnswersItWrong)

end Rows
end Go.Proofs.Qxb6605806a
