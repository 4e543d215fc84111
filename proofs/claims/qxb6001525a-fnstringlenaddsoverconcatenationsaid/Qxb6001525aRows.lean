/-
  No cell of these rows narrows 'for every input' (looked for: loops, veiled, ifaces, maps, wideKeys, modest, calm, conditions, laid).
  DERIVED. THE GIVEN ROWS OF THIS SEAT. 2 by the template 'for every input the law returns true; each argument reads behind the call as it read before'; 0 by the template 'total and deterministic' (their statements: Qxb6001525aTotals.lean).
  GIVEN WITH THE SEED: the statements are not yours to turn. If you find one false, say at which input.
  Laid BY PROGRAM, IN A SANDBOX (cutbox-rows.mjs): the forced cells as the released guide's own fill.sh prints them over the translation 4f77eec5c81e7790… (all of the seat's roots in one cut). By AI agents, Wed Nov 11 2026. No macro, syntax, notation, axiom, sorry.
-/
import Derived.Test.Qxb6001525aChecked
import GoSem.Claim
import GoSem.ClaimJoined
import GoSem.ClaimMapViews
import Derived.JoinedTies
import Derived.KernelRfl
namespace Go.Proofs.Qxb6001525a
/- THE CELL 'sum', in the pinned program and in every row, IS THE sha256 OF THE DUMP (.gsa) THAT Qxb6001525aProg.lean LOADS. Nothing in Lean hashes anything: it is a label: what it is worth is what the hold of that sum in a sandbox is worth. -/
noncomputable def Try.pinned : Pinned := { name := "qxb6001525a", sum := "4f77eec5c81e7790fd96838329778795ede931714e3f8bfd7c3cc8b3e8d65c52", checked := Try.checked }
namespace Rows
def none {H : Type} : Left H := { results := [], args := [] }

/-- 'zzlaws_root_b1.FnStringLenMeasuresEscapedString': WHATEVER THE INPUT: true; the input reads as it did. -/
def fnStringLenMeasuresEscapedStringSpec : ChangeSpec := { name := "fnStringLenMeasuresEscapedString", fn := fun _ => fun
  | [d1, d2] => { results := [.lit (.bool true)], args := [d1, d2] }
  | _ => none }
def fnStringLenMeasuresEscapedStringRow : OpenClaim := { program := "qxb6001525a", sum := "4f77eec5c81e7790fd96838329778795ede931714e3f8bfd7c3cc8b3e8d65c52", func := "example.com/onceward/onceward/zzlaws_root_b1.FnStringLenMeasuresEscapedString", spec := "fnStringLenMeasuresEscapedString", apart := false }
def FnStringLenMeasuresEscapedStringSaid : Prop := fnStringLenMeasuresEscapedStringRow.holds Try.pinned (OpenSpec.ofChange fnStringLenMeasuresEscapedStringSpec)

/-- ITS FALSE NEIGHBOUR: 'it returns false'. Refute it at one input. -/
def fnStringLenMeasuresEscapedStringWrong : ChangeSpec := { name := "fnStringLenMeasuresEscapedString", fn := fun _ => fun
  | [d1, d2] => { results := [.lit (.bool false)], args := [d1, d2] }
  | _ => none }
def FnStringLenMeasuresEscapedStringWrongFalsely : Prop := fnStringLenMeasuresEscapedStringRow.holds Try.pinned (OpenSpec.ofChange fnStringLenMeasuresEscapedStringWrong)

/-- 'zzlaws_root_b1.FnStringLenAddsOverConcatenation': WHATEVER THE INPUT: true; the input reads as it did. -/
def fnStringLenAddsOverConcatenationSpec : ChangeSpec := { name := "fnStringLenAddsOverConcatenation", fn := fun _ => fun
  | [d1, d2] => { results := [.lit (.bool true)], args := [d1, d2] }
  | _ => none }
def fnStringLenAddsOverConcatenationRow : OpenClaim := { program := "qxb6001525a", sum := "4f77eec5c81e7790fd96838329778795ede931714e3f8bfd7c3cc8b3e8d65c52", func := "example.com/onceward/onceward/zzlaws_root_b1.FnStringLenAddsOverConcatenation", spec := "fnStringLenAddsOverConcatenation", apart := false }
def FnStringLenAddsOverConcatenationSaid : Prop := fnStringLenAddsOverConcatenationRow.holds Try.pinned (OpenSpec.ofChange fnStringLenAddsOverConcatenationSpec)

/-- ITS FALSE NEIGHBOUR: 'it returns false'. Refute it at one input. -/
def fnStringLenAddsOverConcatenationWrong : ChangeSpec := { name := "fnStringLenAddsOverConcatenation", fn := fun _ => fun
  | [d1, d2] => { results := [.lit (.bool false)], args := [d1, d2] }
  | _ => none }
def FnStringLenAddsOverConcatenationWrongFalsely : Prop := fnStringLenAddsOverConcatenationRow.holds Try.pinned (OpenSpec.ofChange fnStringLenAddsOverConcatenationWrong)

end Rows
end Go.Proofs.Qxb6001525a
