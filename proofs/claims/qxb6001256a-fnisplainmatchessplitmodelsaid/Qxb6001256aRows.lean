/-
  No cell of these rows narrows 'for every input' (looked for: loops, veiled, ifaces, maps, wideKeys, modest, calm, conditions, laid).
  DERIVED. THE GIVEN ROWS OF THIS SEAT. 3 by the template 'for every input the law returns true; each argument reads behind the call as it read before'; 0 by the template 'total and deterministic' (their statements: Qxb6001256aTotals.lean).
  GIVEN WITH THE SEED: the statements are not yours to turn. If you find one false, say at which input.
  Laid BY PROGRAM, IN A SANDBOX (cutbox-rows.mjs): the forced cells as the released guide's own fill.sh prints them over the translation 4c3104f657316310… (all of the seat's roots in one cut). By AI agents, Wed Nov 11 2026. No macro, syntax, notation, axiom, sorry.
-/
import Derived.Test.Qxb6001256aChecked
import GoSem.Claim
import GoSem.ClaimJoined
import GoSem.ClaimMapViews
import Derived.JoinedTies
import Derived.KernelRfl
namespace Go.Proofs.Qxb6001256a
/- THE CELL 'sum', in the pinned program and in every row, IS THE sha256 OF THE DUMP (.gsa) THAT Qxb6001256aProg.lean LOADS. Nothing in Lean hashes anything: it is a label: what it is worth is what the hold of that sum in a sandbox is worth. -/
noncomputable def Try.pinned : Pinned := { name := "qxb6001256a", sum := "4c3104f6573163107f7faed188aa4106986fdf6e104d6efec13eb5496b7b59e0", checked := Try.checked }
namespace Rows
def none {H : Type} : Left H := { results := [], args := [] }

/-- 'zzlaws_internal_decimal_b1.FnIsPlainMatchesSplitModel': WHATEVER THE INPUT: true; the input reads as it did. -/
def fnIsPlainMatchesSplitModelSpec : ChangeSpec := { name := "fnIsPlainMatchesSplitModel", fn := fun _ => fun
  | [d] => { results := [.lit (.bool true)], args := [d] }
  | _ => none }
def fnIsPlainMatchesSplitModelRow : OpenClaim := { program := "qxb6001256a", sum := "4c3104f6573163107f7faed188aa4106986fdf6e104d6efec13eb5496b7b59e0", func := "example.com/tranchefold/tranchefold/zzlaws_internal_decimal_b1.FnIsPlainMatchesSplitModel", spec := "fnIsPlainMatchesSplitModel", apart := false }
def FnIsPlainMatchesSplitModelSaid : Prop := fnIsPlainMatchesSplitModelRow.holds Try.pinned (OpenSpec.ofChange fnIsPlainMatchesSplitModelSpec)

/-- ITS FALSE NEIGHBOUR: 'it returns false'. Refute it at one input. -/
def fnIsPlainMatchesSplitModelWrong : ChangeSpec := { name := "fnIsPlainMatchesSplitModel", fn := fun _ => fun
  | [d] => { results := [.lit (.bool false)], args := [d] }
  | _ => none }
def FnIsPlainMatchesSplitModelWrongFalsely : Prop := fnIsPlainMatchesSplitModelRow.holds Try.pinned (OpenSpec.ofChange fnIsPlainMatchesSplitModelWrong)

/-- 'zzlaws_internal_decimal_b1.FnIsPlainMinusSign': WHATEVER THE INPUT: true; the input reads as it did. -/
def fnIsPlainMinusSignSpec : ChangeSpec := { name := "fnIsPlainMinusSign", fn := fun _ => fun
  | [d] => { results := [.lit (.bool true)], args := [d] }
  | _ => none }
def fnIsPlainMinusSignRow : OpenClaim := { program := "qxb6001256a", sum := "4c3104f6573163107f7faed188aa4106986fdf6e104d6efec13eb5496b7b59e0", func := "example.com/tranchefold/tranchefold/zzlaws_internal_decimal_b1.FnIsPlainMinusSign", spec := "fnIsPlainMinusSign", apart := false }
def FnIsPlainMinusSignSaid : Prop := fnIsPlainMinusSignRow.holds Try.pinned (OpenSpec.ofChange fnIsPlainMinusSignSpec)

/-- ITS FALSE NEIGHBOUR: 'it returns false'. Refute it at one input. -/
def fnIsPlainMinusSignWrong : ChangeSpec := { name := "fnIsPlainMinusSign", fn := fun _ => fun
  | [d] => { results := [.lit (.bool false)], args := [d] }
  | _ => none }
def FnIsPlainMinusSignWrongFalsely : Prop := fnIsPlainMinusSignRow.holds Try.pinned (OpenSpec.ofChange fnIsPlainMinusSignWrong)

/-- 'zzlaws_internal_decimal_b1.FnIsPlainExtendByDigits': WHATEVER THE INPUT: true; the input reads as it did. -/
def fnIsPlainExtendByDigitsSpec : ChangeSpec := { name := "fnIsPlainExtendByDigits", fn := fun _ => fun
  | [d1, d2] => { results := [.lit (.bool true)], args := [d1, d2] }
  | _ => none }
def fnIsPlainExtendByDigitsRow : OpenClaim := { program := "qxb6001256a", sum := "4c3104f6573163107f7faed188aa4106986fdf6e104d6efec13eb5496b7b59e0", func := "example.com/tranchefold/tranchefold/zzlaws_internal_decimal_b1.FnIsPlainExtendByDigits", spec := "fnIsPlainExtendByDigits", apart := false }
def FnIsPlainExtendByDigitsSaid : Prop := fnIsPlainExtendByDigitsRow.holds Try.pinned (OpenSpec.ofChange fnIsPlainExtendByDigitsSpec)

/-- ITS FALSE NEIGHBOUR: 'it returns false'. Refute it at one input. -/
def fnIsPlainExtendByDigitsWrong : ChangeSpec := { name := "fnIsPlainExtendByDigits", fn := fun _ => fun
  | [d1, d2] => { results := [.lit (.bool false)], args := [d1, d2] }
  | _ => none }
def FnIsPlainExtendByDigitsWrongFalsely : Prop := fnIsPlainExtendByDigitsRow.holds Try.pinned (OpenSpec.ofChange fnIsPlainExtendByDigitsWrong)

end Rows
end Go.Proofs.Qxb6001256a
