/-
  No cell of these rows narrows 'for every input' (looked for: loops, veiled, ifaces, maps, wideKeys, modest, calm, conditions, laid).
  DERIVED. THE GIVEN ROWS OF THIS SEAT. 2 by the template 'for every input the law returns true; each argument reads behind the call as it read before'; 0 by the template 'total and deterministic' (their statements: Qxb6001617aTotals.lean).
  GIVEN WITH THE SEED: the statements are not yours to turn. If you find one false, say at which input.
  Laid BY PROGRAM, IN A SANDBOX (cutbox-rows.mjs): the forced cells as the released guide's own fill.sh prints them over the translation da81df113c2015e9… (all of the seat's roots in one cut). By AI agents, Wed Nov 11 2026. No macro, syntax, notation, axiom, sorry.
-/
import Derived.Test.Qxb6001617aChecked
import GoSem.Claim
import GoSem.ClaimJoined
import GoSem.ClaimMapViews
import Derived.JoinedTies
import Derived.KernelRfl
namespace Go.Proofs.Qxb6001617a
/- THE CELL 'sum', in the pinned program and in every row, IS THE sha256 OF THE DUMP (.gsa) THAT Qxb6001617aProg.lean LOADS. Nothing in Lean hashes anything: it is a label: what it is worth is what the hold of that sum in a sandbox is worth. -/
noncomputable def Try.pinned : Pinned := { name := "qxb6001617a", sum := "da81df113c2015e933983102ddfc043db869293354270e8edb00243be647673f", checked := Try.checked }
namespace Rows
def none {H : Type} : Left H := { results := [], args := [] }

/-- 'zzlaws_pkg_config_b1.FnValuesJoinedSplitsBack': WHATEVER THE INPUT: true; the input reads as it did. -/
def fnValuesJoinedSplitsBackSpec : ChangeSpec := { name := "fnValuesJoinedSplitsBack", fn := fun _ => fun
  | [d1, d2, d3, d4, d5] => { results := [.lit (.bool true)], args := [d1, d2, d3, d4, d5] }
  | _ => none }
def fnValuesJoinedSplitsBackRow : OpenClaim := { program := "qxb6001617a", sum := "da81df113c2015e933983102ddfc043db869293354270e8edb00243be647673f", func := "example.com/keywarden/keywarden/zzlaws_pkg_config_b1.FnValuesJoinedSplitsBack", spec := "fnValuesJoinedSplitsBack", inPlace := ["internal/abi.NoEscape", "internal/bytealg.MakeNoZero"], apart := false }
def FnValuesJoinedSplitsBackSaid : Prop := fnValuesJoinedSplitsBackRow.holds Try.pinned (OpenSpec.ofChange fnValuesJoinedSplitsBackSpec)

/-- ITS FALSE NEIGHBOUR: 'it returns false'. Refute it at one input. -/
def fnValuesJoinedSplitsBackWrong : ChangeSpec := { name := "fnValuesJoinedSplitsBack", fn := fun _ => fun
  | [d1, d2, d3, d4, d5] => { results := [.lit (.bool false)], args := [d1, d2, d3, d4, d5] }
  | _ => none }
def FnValuesJoinedSplitsBackWrongFalsely : Prop := fnValuesJoinedSplitsBackRow.holds Try.pinned (OpenSpec.ofChange fnValuesJoinedSplitsBackWrong)

/-- 'zzlaws_pkg_config_b1.FnValuesJoinedLengthAndCommas': WHATEVER THE INPUT: true; the input reads as it did. -/
def fnValuesJoinedLengthAndCommasSpec : ChangeSpec := { name := "fnValuesJoinedLengthAndCommas", fn := fun _ => fun
  | [d1, d2, d3, d4, d5] => { results := [.lit (.bool true)], args := [d1, d2, d3, d4, d5] }
  | _ => none }
def fnValuesJoinedLengthAndCommasRow : OpenClaim := { program := "qxb6001617a", sum := "da81df113c2015e933983102ddfc043db869293354270e8edb00243be647673f", func := "example.com/keywarden/keywarden/zzlaws_pkg_config_b1.FnValuesJoinedLengthAndCommas", spec := "fnValuesJoinedLengthAndCommas", inPlace := ["internal/abi.NoEscape", "internal/bytealg.MakeNoZero"], apart := false }
def FnValuesJoinedLengthAndCommasSaid : Prop := fnValuesJoinedLengthAndCommasRow.holds Try.pinned (OpenSpec.ofChange fnValuesJoinedLengthAndCommasSpec)

/-- ITS FALSE NEIGHBOUR: 'it returns false'. Refute it at one input. -/
def fnValuesJoinedLengthAndCommasWrong : ChangeSpec := { name := "fnValuesJoinedLengthAndCommas", fn := fun _ => fun
  | [d1, d2, d3, d4, d5] => { results := [.lit (.bool false)], args := [d1, d2, d3, d4, d5] }
  | _ => none }
def FnValuesJoinedLengthAndCommasWrongFalsely : Prop := fnValuesJoinedLengthAndCommasRow.holds Try.pinned (OpenSpec.ofChange fnValuesJoinedLengthAndCommasWrong)

end Rows
end Go.Proofs.Qxb6001617a
