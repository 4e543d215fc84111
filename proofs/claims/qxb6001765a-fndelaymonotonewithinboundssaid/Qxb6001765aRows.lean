/-
  No cell of these rows narrows 'for every input' (looked for: loops, veiled, ifaces, maps, wideKeys, modest, calm, conditions, laid).
  DERIVED. THE GIVEN ROWS OF THIS SEAT. 4 by the template 'for every input the law returns true; each argument reads behind the call as it read before'; 0 by the template 'total and deterministic' (their statements: Qxb6001765aTotals.lean).
  GIVEN WITH THE SEED: the statements are not yours to turn. If you find one false, say at which input.
  Laid BY PROGRAM, IN A SANDBOX (cutbox-rows.mjs): the forced cells as the released guide's own fill.sh prints them over the translation 3bf6cc0e29ccd1be… (all of the seat's roots in one cut). By AI agents, Wed Nov 11 2026. No macro, syntax, notation, axiom, sorry.
-/
import Derived.Test.Qxb6001765aChecked
import GoSem.Claim
import GoSem.ClaimJoined
import GoSem.ClaimMapViews
import Derived.JoinedTies
import Derived.KernelRfl
namespace Go.Proofs.Qxb6001765a
/- THE CELL 'sum', in the pinned program and in every row, IS THE sha256 OF THE DUMP (.gsa) THAT Qxb6001765aProg.lean LOADS. Nothing in Lean hashes anything: it is a label: what it is worth is what the hold of that sum in a sandbox is worth. -/
noncomputable def Try.pinned : Pinned := { name := "qxb6001765a", sum := "3bf6cc0e29ccd1be1666967e9ebe3e9c248f1ec49047487e4f22c2344a72bd70", checked := Try.checked }
namespace Rows
def none {H : Type} : Left H := { results := [], args := [] }

/-- 'zzlaws_internal_backoff_g1.FnDelayMatchesClosedForm': WHATEVER THE INPUT: true; the input reads as it did. -/
def fnDelayMatchesClosedFormSpec : ChangeSpec := { name := "fnDelayMatchesClosedForm", fn := fun _ => fun
  | [d1, d2, d3] => { results := [.lit (.bool true)], args := [d1, d2, d3] }
  | _ => none }
def fnDelayMatchesClosedFormRow : OpenClaim := { program := "qxb6001765a", sum := "3bf6cc0e29ccd1be1666967e9ebe3e9c248f1ec49047487e4f22c2344a72bd70", func := "example.com/onceguard/onceguard/zzlaws_internal_backoff_g1.FnDelayMatchesClosedForm", spec := "fnDelayMatchesClosedForm", apart := false }
def FnDelayMatchesClosedFormSaid : Prop := fnDelayMatchesClosedFormRow.holds Try.pinned (OpenSpec.ofChange fnDelayMatchesClosedFormSpec)

/-- ITS FALSE NEIGHBOUR: 'it returns false'. Refute it at one input. -/
def fnDelayMatchesClosedFormWrong : ChangeSpec := { name := "fnDelayMatchesClosedForm", fn := fun _ => fun
  | [d1, d2, d3] => { results := [.lit (.bool false)], args := [d1, d2, d3] }
  | _ => none }
def FnDelayMatchesClosedFormWrongFalsely : Prop := fnDelayMatchesClosedFormRow.holds Try.pinned (OpenSpec.ofChange fnDelayMatchesClosedFormWrong)

/-- 'zzlaws_internal_backoff_g1.FnDelayCapsAtLongestForLateAttempts': WHATEVER THE INPUT: true; the input reads as it did. -/
def fnDelayCapsAtLongestForLateAttemptsSpec : ChangeSpec := { name := "fnDelayCapsAtLongestForLateAttempts", fn := fun _ => fun
  | [d1, d2, d3] => { results := [.lit (.bool true)], args := [d1, d2, d3] }
  | _ => none }
def fnDelayCapsAtLongestForLateAttemptsRow : OpenClaim := { program := "qxb6001765a", sum := "3bf6cc0e29ccd1be1666967e9ebe3e9c248f1ec49047487e4f22c2344a72bd70", func := "example.com/onceguard/onceguard/zzlaws_internal_backoff_g1.FnDelayCapsAtLongestForLateAttempts", spec := "fnDelayCapsAtLongestForLateAttempts", apart := false }
def FnDelayCapsAtLongestForLateAttemptsSaid : Prop := fnDelayCapsAtLongestForLateAttemptsRow.holds Try.pinned (OpenSpec.ofChange fnDelayCapsAtLongestForLateAttemptsSpec)

/-- ITS FALSE NEIGHBOUR: 'it returns false'. Refute it at one input. -/
def fnDelayCapsAtLongestForLateAttemptsWrong : ChangeSpec := { name := "fnDelayCapsAtLongestForLateAttempts", fn := fun _ => fun
  | [d1, d2, d3] => { results := [.lit (.bool false)], args := [d1, d2, d3] }
  | _ => none }
def FnDelayCapsAtLongestForLateAttemptsWrongFalsely : Prop := fnDelayCapsAtLongestForLateAttemptsRow.holds Try.pinned (OpenSpec.ofChange fnDelayCapsAtLongestForLateAttemptsWrong)

/-- 'zzlaws_internal_backoff_g1.FnDelayMonotoneWithinBounds': WHATEVER THE INPUT: true; the input reads as it did. -/
def fnDelayMonotoneWithinBoundsSpec : ChangeSpec := { name := "fnDelayMonotoneWithinBounds", fn := fun _ => fun
  | [d1, d2, d3, d4] => { results := [.lit (.bool true)], args := [d1, d2, d3, d4] }
  | _ => none }
def fnDelayMonotoneWithinBoundsRow : OpenClaim := { program := "qxb6001765a", sum := "3bf6cc0e29ccd1be1666967e9ebe3e9c248f1ec49047487e4f22c2344a72bd70", func := "example.com/onceguard/onceguard/zzlaws_internal_backoff_g1.FnDelayMonotoneWithinBounds", spec := "fnDelayMonotoneWithinBounds", apart := false }
def FnDelayMonotoneWithinBoundsSaid : Prop := fnDelayMonotoneWithinBoundsRow.holds Try.pinned (OpenSpec.ofChange fnDelayMonotoneWithinBoundsSpec)

/-- ITS FALSE NEIGHBOUR: 'it returns false'. Refute it at one input. -/
def fnDelayMonotoneWithinBoundsWrong : ChangeSpec := { name := "fnDelayMonotoneWithinBounds", fn := fun _ => fun
  | [d1, d2, d3, d4] => { results := [.lit (.bool false)], args := [d1, d2, d3, d4] }
  | _ => none }
def FnDelayMonotoneWithinBoundsWrongFalsely : Prop := fnDelayMonotoneWithinBoundsRow.holds Try.pinned (OpenSpec.ofChange fnDelayMonotoneWithinBoundsWrong)

/-- 'zzlaws_client_g1.FnRetriedOnlyTransientErrors': WHATEVER THE INPUT: true; the input reads as it did. -/
def fnRetriedOnlyTransientErrorsSpec : ChangeSpec := { name := "fnRetriedOnlyTransientErrors", fn := fun _ => fun
  | [d] => { results := [.lit (.bool true)], args := [d] }
  | _ => none }
def fnRetriedOnlyTransientErrorsRow : OpenClaim := { program := "qxb6001765a", sum := "3bf6cc0e29ccd1be1666967e9ebe3e9c248f1ec49047487e4f22c2344a72bd70", func := "example.com/onceguard/onceguard/zzlaws_client_g1.FnRetriedOnlyTransientErrors", spec := "fnRetriedOnlyTransientErrors", apart := false }
def FnRetriedOnlyTransientErrorsSaid : Prop := fnRetriedOnlyTransientErrorsRow.holds Try.pinned (OpenSpec.ofChange fnRetriedOnlyTransientErrorsSpec)

/-- ITS FALSE NEIGHBOUR: 'it returns false'. Refute it at one input. -/
def fnRetriedOnlyTransientErrorsWrong : ChangeSpec := { name := "fnRetriedOnlyTransientErrors", fn := fun _ => fun
  | [d] => { results := [.lit (.bool false)], args := [d] }
  | _ => none }
def FnRetriedOnlyTransientErrorsWrongFalsely : Prop := fnRetriedOnlyTransientErrorsRow.holds Try.pinned (OpenSpec.ofChange fnRetriedOnlyTransientErrorsWrong)

end Rows
end Go.Proofs.Qxb6001765a
