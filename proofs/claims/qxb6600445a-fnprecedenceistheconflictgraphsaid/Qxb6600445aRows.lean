/-
  No cell of these rows narrows 'for every input' (looked for: loops, veiled, ifaces, maps, wideKeys, modest, calm, conditions, laid).
  DERIVED. THE GIVEN ROWS OF THIS SEAT. 6 by the template 'for every input the law returns true; each argument reads behind the call as it read before'; 0 by the template 'total and deterministic' (their statements: Qxb6600445aTotals.lean).
  GIVEN WITH THE SEED: the statements are not yours to turn. If you find one false, say at which input.
  Laid BY PROGRAM, IN A SANDBOX (cutbox-rows.mjs): the forced cells as the released guide's own fill.sh prints them over the translation 5808a7bd92502d51… (all of the seat's roots in one cut). By AI agents, Wed Nov 11 2026. No macro, syntax, notation, axiom, sorry.
-/
import Derived.Test.Qxb6600445aChecked
import GoSem.Claim
import GoSem.ClaimJoined
import GoSem.ClaimMapViews
import Derived.JoinedTies
import Derived.KernelRfl
namespace Go.Proofs.Qxb6600445a
/- THE CELL 'sum', in the pinned program and in every row, IS THE sha256 OF THE DUMP (.gsa) THAT Qxb6600445aProg.lean LOADS. Nothing in Lean hashes anything: it is a label: what it is worth is what the hold of that sum in a sandbox is worth. -/
noncomputable def Try.pinned : Pinned := { name := "qxb6600445a", sum := "5808a7bd92502d513f1b981cddfa31ab57c03e51c2ac323cc3c4e3f651687c25", checked := Try.checked }
namespace Rows
def none {H : Type} : Left H := { results := [], args := [] }

/-- 'zzlaws_internal_schedule_b1.FnRecoveryMatchesTextbookModel': WHATEVER THE INPUT: true; the input reads as it did. -/
def fnRecoveryMatchesTextbookModelSpec : ChangeSpec := { name := "fnRecoveryMatchesTextbookModel", fn := fun _ => fun
  | [d1, d2, d3] => { results := [.lit (.bool true)], args := [d1, d2, d3] }
  | _ => none }
def fnRecoveryMatchesTextbookModelRow : OpenClaim := { program := "qxb6600445a", sum := "5808a7bd92502d513f1b981cddfa31ab57c03e51c2ac323cc3c4e3f651687c25", func := "example.com/seriatim/seriatim/zzlaws_internal_schedule_b1.FnRecoveryMatchesTextbookModel", spec := "fnRecoveryMatchesTextbookModel", plainKeys := false, apart := false }
def FnRecoveryMatchesTextbookModelSaid : Prop := fnRecoveryMatchesTextbookModelRow.holds Try.pinned (OpenSpec.ofChange fnRecoveryMatchesTextbookModelSpec)

/-- ITS FALSE NEIGHBOUR: 'it returns false'. Refute it at one input. -/
def fnRecoveryMatchesTextbookModelWrong : ChangeSpec := { name := "fnRecoveryMatchesTextbookModel", fn := fun _ => fun
  | [d1, d2, d3] => { results := [.lit (.bool false)], args := [d1, d2, d3] }
  | _ => none }
def FnRecoveryMatchesTextbookModelWrongFalsely : Prop := fnRecoveryMatchesTextbookModelRow.holds Try.pinned (OpenSpec.ofChange fnRecoveryMatchesTextbookModelWrong)

/-- 'zzlaws_internal_schedule_b1.FnRecoveryStrictImpliesCascadelessImpliesRecoverable': WHATEVER THE INPUT: true; the input reads as it did. -/
def fnRecoveryStrictImpliesCascadelessImpliesRecoverableSpec : ChangeSpec := { name := "fnRecoveryStrictImpliesCascadelessImpliesRecoverable", fn := fun _ => fun
  | [d1, d2, d3] => { results := [.lit (.bool true)], args := [d1, d2, d3] }
  | _ => none }
def fnRecoveryStrictImpliesCascadelessImpliesRecoverableRow : OpenClaim := { program := "qxb6600445a", sum := "5808a7bd92502d513f1b981cddfa31ab57c03e51c2ac323cc3c4e3f651687c25", func := "example.com/seriatim/seriatim/zzlaws_internal_schedule_b1.FnRecoveryStrictImpliesCascadelessImpliesRecoverable", spec := "fnRecoveryStrictImpliesCascadelessImpliesRecoverable", plainKeys := false, apart := false }
def FnRecoveryStrictImpliesCascadelessImpliesRecoverableSaid : Prop := fnRecoveryStrictImpliesCascadelessImpliesRecoverableRow.holds Try.pinned (OpenSpec.ofChange fnRecoveryStrictImpliesCascadelessImpliesRecoverableSpec)

/-- ITS FALSE NEIGHBOUR: 'it returns false'. Refute it at one input. -/
def fnRecoveryStrictImpliesCascadelessImpliesRecoverableWrong : ChangeSpec := { name := "fnRecoveryStrictImpliesCascadelessImpliesRecoverable", fn := fun _ => fun
  | [d1, d2, d3] => { results := [.lit (.bool false)], args := [d1, d2, d3] }
  | _ => none }
def FnRecoveryStrictImpliesCascadelessImpliesRecoverableWrongFalsely : Prop := fnRecoveryStrictImpliesCascadelessImpliesRecoverableRow.holds Try.pinned (OpenSpec.ofChange fnRecoveryStrictImpliesCascadelessImpliesRecoverableWrong)

/-- 'zzlaws_internal_schedule_b1.FnRecoveryPrefixKeepsEveryViolation': WHATEVER THE INPUT: true; the input reads as it did. -/
def fnRecoveryPrefixKeepsEveryViolationSpec : ChangeSpec := { name := "fnRecoveryPrefixKeepsEveryViolation", fn := fun _ => fun
  | [d1, d2, d3, d4] => { results := [.lit (.bool true)], args := [d1, d2, d3, d4] }
  | _ => none }
def fnRecoveryPrefixKeepsEveryViolationRow : OpenClaim := { program := "qxb6600445a", sum := "5808a7bd92502d513f1b981cddfa31ab57c03e51c2ac323cc3c4e3f651687c25", func := "example.com/seriatim/seriatim/zzlaws_internal_schedule_b1.FnRecoveryPrefixKeepsEveryViolation", spec := "fnRecoveryPrefixKeepsEveryViolation", plainKeys := false, apart := false }
def FnRecoveryPrefixKeepsEveryViolationSaid : Prop := fnRecoveryPrefixKeepsEveryViolationRow.holds Try.pinned (OpenSpec.ofChange fnRecoveryPrefixKeepsEveryViolationSpec)

/-- ITS FALSE NEIGHBOUR: 'it returns false'. Refute it at one input. -/
def fnRecoveryPrefixKeepsEveryViolationWrong : ChangeSpec := { name := "fnRecoveryPrefixKeepsEveryViolation", fn := fun _ => fun
  | [d1, d2, d3, d4] => { results := [.lit (.bool false)], args := [d1, d2, d3, d4] }
  | _ => none }
def FnRecoveryPrefixKeepsEveryViolationWrongFalsely : Prop := fnRecoveryPrefixKeepsEveryViolationRow.holds Try.pinned (OpenSpec.ofChange fnRecoveryPrefixKeepsEveryViolationWrong)

/-- 'zzlaws_internal_schedule_b1.FnPrecedenceIsTheConflictGraph': WHATEVER THE INPUT: true; the input reads as it did. -/
def fnPrecedenceIsTheConflictGraphSpec : ChangeSpec := { name := "fnPrecedenceIsTheConflictGraph", fn := fun _ => fun
  | [d1, d2, d3, d4] => { results := [.lit (.bool true)], args := [d1, d2, d3, d4] }
  | _ => none }
def fnPrecedenceIsTheConflictGraphRow : OpenClaim := { program := "qxb6600445a", sum := "5808a7bd92502d513f1b981cddfa31ab57c03e51c2ac323cc3c4e3f651687c25", func := "example.com/seriatim/seriatim/zzlaws_internal_schedule_b1.FnPrecedenceIsTheConflictGraph", spec := "fnPrecedenceIsTheConflictGraph", plainKeys := false, apart := false }
def FnPrecedenceIsTheConflictGraphSaid : Prop := fnPrecedenceIsTheConflictGraphRow.holds Try.pinned (OpenSpec.ofChange fnPrecedenceIsTheConflictGraphSpec)

/-- ITS FALSE NEIGHBOUR: 'it returns false'. Refute it at one input. -/
def fnPrecedenceIsTheConflictGraphWrong : ChangeSpec := { name := "fnPrecedenceIsTheConflictGraph", fn := fun _ => fun
  | [d1, d2, d3, d4] => { results := [.lit (.bool false)], args := [d1, d2, d3, d4] }
  | _ => none }
def FnPrecedenceIsTheConflictGraphWrongFalsely : Prop := fnPrecedenceIsTheConflictGraphRow.holds Try.pinned (OpenSpec.ofChange fnPrecedenceIsTheConflictGraphWrong)

/-- 'zzlaws_internal_schedule_b1.FnPrecedenceSwapOfNonConflictingNeighbours': WHATEVER THE INPUT: true; the input reads as it did. -/
def fnPrecedenceSwapOfNonConflictingNeighboursSpec : ChangeSpec := { name := "fnPrecedenceSwapOfNonConflictingNeighbours", fn := fun _ => fun
  | [d1, d2, d3, d4, d5] => { results := [.lit (.bool true)], args := [d1, d2, d3, d4, d5] }
  | _ => none }
def fnPrecedenceSwapOfNonConflictingNeighboursRow : OpenClaim := { program := "qxb6600445a", sum := "5808a7bd92502d513f1b981cddfa31ab57c03e51c2ac323cc3c4e3f651687c25", func := "example.com/seriatim/seriatim/zzlaws_internal_schedule_b1.FnPrecedenceSwapOfNonConflictingNeighbours", spec := "fnPrecedenceSwapOfNonConflictingNeighbours", plainKeys := false, apart := false }
def FnPrecedenceSwapOfNonConflictingNeighboursSaid : Prop := fnPrecedenceSwapOfNonConflictingNeighboursRow.holds Try.pinned (OpenSpec.ofChange fnPrecedenceSwapOfNonConflictingNeighboursSpec)

/-- ITS FALSE NEIGHBOUR: 'it returns false'. Refute it at one input. -/
def fnPrecedenceSwapOfNonConflictingNeighboursWrong : ChangeSpec := { name := "fnPrecedenceSwapOfNonConflictingNeighbours", fn := fun _ => fun
  | [d1, d2, d3, d4, d5] => { results := [.lit (.bool false)], args := [d1, d2, d3, d4, d5] }
  | _ => none }
def FnPrecedenceSwapOfNonConflictingNeighboursWrongFalsely : Prop := fnPrecedenceSwapOfNonConflictingNeighboursRow.holds Try.pinned (OpenSpec.ofChange fnPrecedenceSwapOfNonConflictingNeighboursWrong)

/-- 'zzlaws_internal_schedule_b1.FnWithoutAbortingIsIdempotent': WHATEVER THE INPUT: true; the input reads as it did. -/
def fnWithoutAbortingIsIdempotentSpec : ChangeSpec := { name := "fnWithoutAbortingIsIdempotent", fn := fun _ => fun
  | [d1, d2, d3, d4] => { results := [.lit (.bool true)], args := [d1, d2, d3, d4] }
  | _ => none }
def fnWithoutAbortingIsIdempotentRow : OpenClaim := { program := "qxb6600445a", sum := "5808a7bd92502d513f1b981cddfa31ab57c03e51c2ac323cc3c4e3f651687c25", func := "example.com/seriatim/seriatim/zzlaws_internal_schedule_b1.FnWithoutAbortingIsIdempotent", spec := "fnWithoutAbortingIsIdempotent", plainKeys := false, apart := false }
def FnWithoutAbortingIsIdempotentSaid : Prop := fnWithoutAbortingIsIdempotentRow.holds Try.pinned (OpenSpec.ofChange fnWithoutAbortingIsIdempotentSpec)

/-- ITS FALSE NEIGHBOUR: 'it returns false'. Refute it at one input. -/
def fnWithoutAbortingIsIdempotentWrong : ChangeSpec := { name := "fnWithoutAbortingIsIdempotent", fn := fun _ => fun
  | [d1, d2, d3, d4] => { results := [.lit (.bool false)], args := [d1, d2, d3, d4] }
  | _ => none }
def FnWithoutAbortingIsIdempotentWrongFalsely : Prop := fnWithoutAbortingIsIdempotentRow.holds Try.pinned (OpenSpec.ofChange fnWithoutAbortingIsIdempotentWrong)

end Rows
end Go.Proofs.Qxb6600445a
