/-
  No cell of these rows narrows 'for every input' (looked for: loops, veiled, ifaces, maps, wideKeys, modest, calm, conditions, laid).
  DERIVED. THE GIVEN ROWS OF THIS SEAT. 6 by the template 'for every input the law returns true; each argument reads behind the call as it read before'; 0 by the template 'total and deterministic' (their statements: Qxb6601218aTotals.lean).
  GIVEN WITH THE SEED: the statements are not yours to turn. If you find one false, say at which input.
  Laid BY PROGRAM, IN A SANDBOX (cutbox-rows.mjs): the forced cells as the released guide's own fill.sh prints them over the translation 81751026676c7fbd… (all of the seat's roots in one cut). By AI agents, Wed Nov 11 2026. No macro, syntax, notation, axiom, sorry.
-/
import Derived.Test.Qxb6601218aChecked
import GoSem.Claim
import GoSem.ClaimJoined
import GoSem.ClaimMapViews
import Derived.JoinedTies
import Derived.KernelRfl
namespace Go.Proofs.Qxb6601218a
/- THE CELL 'sum', in the pinned program and in every row, IS THE sha256 OF THE DUMP (.gsa) THAT Qxb6601218aProg.lean LOADS. Nothing in Lean hashes anything: it is a label: what it is worth is what the hold of that sum in a sandbox is worth. -/
noncomputable def Try.pinned : Pinned := { name := "qxb6601218a", sum := "81751026676c7fbdd2cfd75872dd6df8e4638c816d4bc3fda6135887f7180c11", checked := Try.checked }
namespace Rows
def none {H : Type} : Left H := { results := [], args := [] }

/-- 'zzlaws_pkg_profile_b1.FnPatternMatchAgreesWithRunModel': WHATEVER THE INPUT: true; the input reads as it did. -/
def fnPatternMatchAgreesWithRunModelSpec : ChangeSpec := { name := "fnPatternMatchAgreesWithRunModel", fn := fun _ => fun
  | [d1, d2] => { results := [.lit (.bool true)], args := [d1, d2] }
  | _ => none }
def fnPatternMatchAgreesWithRunModelRow : OpenClaim := { program := "qxb6601218a", sum := "81751026676c7fbdd2cfd75872dd6df8e4638c816d4bc3fda6135887f7180c11", func := "example.com/lichen/lichen/zzlaws_pkg_profile_b1.FnPatternMatchAgreesWithRunModel", spec := "fnPatternMatchAgreesWithRunModel", apart := false }
def FnPatternMatchAgreesWithRunModelSaid : Prop := fnPatternMatchAgreesWithRunModelRow.holds Try.pinned (OpenSpec.ofChange fnPatternMatchAgreesWithRunModelSpec)

/-- ITS FALSE NEIGHBOUR: 'it returns false'. Refute it at one input. -/
def fnPatternMatchAgreesWithRunModelWrong : ChangeSpec := { name := "fnPatternMatchAgreesWithRunModel", fn := fun _ => fun
  | [d1, d2] => { results := [.lit (.bool false)], args := [d1, d2] }
  | _ => none }
def FnPatternMatchAgreesWithRunModelWrongFalsely : Prop := fnPatternMatchAgreesWithRunModelRow.holds Try.pinned (OpenSpec.ofChange fnPatternMatchAgreesWithRunModelWrong)

/-- 'zzlaws_pkg_profile_b1.FnPatternMatchConcatenation': WHATEVER THE INPUT: true; the input reads as it did. -/
def fnPatternMatchConcatenationSpec : ChangeSpec := { name := "fnPatternMatchConcatenation", fn := fun _ => fun
  | [d1, d2, d3, d4] => { results := [.lit (.bool true)], args := [d1, d2, d3, d4] }
  | _ => none }
def fnPatternMatchConcatenationRow : OpenClaim := { program := "qxb6601218a", sum := "81751026676c7fbdd2cfd75872dd6df8e4638c816d4bc3fda6135887f7180c11", func := "example.com/lichen/lichen/zzlaws_pkg_profile_b1.FnPatternMatchConcatenation", spec := "fnPatternMatchConcatenation", apart := false }
def FnPatternMatchConcatenationSaid : Prop := fnPatternMatchConcatenationRow.holds Try.pinned (OpenSpec.ofChange fnPatternMatchConcatenationSpec)

/-- ITS FALSE NEIGHBOUR: 'it returns false'. Refute it at one input. -/
def fnPatternMatchConcatenationWrong : ChangeSpec := { name := "fnPatternMatchConcatenation", fn := fun _ => fun
  | [d1, d2, d3, d4] => { results := [.lit (.bool false)], args := [d1, d2, d3, d4] }
  | _ => none }
def FnPatternMatchConcatenationWrongFalsely : Prop := fnPatternMatchConcatenationRow.holds Try.pinned (OpenSpec.ofChange fnPatternMatchConcatenationWrong)

/-- 'zzlaws_pkg_profile_b1.FnPatternMatchDoubledStarsWiden': WHATEVER THE INPUT: true; the input reads as it did. -/
def fnPatternMatchDoubledStarsWidenSpec : ChangeSpec := { name := "fnPatternMatchDoubledStarsWiden", fn := fun _ => fun
  | [d1, d2] => { results := [.lit (.bool true)], args := [d1, d2] }
  | _ => none }
def fnPatternMatchDoubledStarsWidenRow : OpenClaim := { program := "qxb6601218a", sum := "81751026676c7fbdd2cfd75872dd6df8e4638c816d4bc3fda6135887f7180c11", func := "example.com/lichen/lichen/zzlaws_pkg_profile_b1.FnPatternMatchDoubledStarsWiden", spec := "fnPatternMatchDoubledStarsWiden", apart := false }
def FnPatternMatchDoubledStarsWidenSaid : Prop := fnPatternMatchDoubledStarsWidenRow.holds Try.pinned (OpenSpec.ofChange fnPatternMatchDoubledStarsWidenSpec)

/-- ITS FALSE NEIGHBOUR: 'it returns false'. Refute it at one input. -/
def fnPatternMatchDoubledStarsWidenWrong : ChangeSpec := { name := "fnPatternMatchDoubledStarsWiden", fn := fun _ => fun
  | [d1, d2] => { results := [.lit (.bool false)], args := [d1, d2] }
  | _ => none }
def FnPatternMatchDoubledStarsWidenWrongFalsely : Prop := fnPatternMatchDoubledStarsWidenRow.holds Try.pinned (OpenSpec.ofChange fnPatternMatchDoubledStarsWidenWrong)

/-- 'zzlaws_pkg_profile_b1.FnMergeSlashesSquashesEachRun': WHATEVER THE INPUT: true; the input reads as it did. -/
def fnMergeSlashesSquashesEachRunSpec : ChangeSpec := { name := "fnMergeSlashesSquashesEachRun", fn := fun _ => fun
  | [d] => { results := [.lit (.bool true)], args := [d] }
  | _ => none }
def fnMergeSlashesSquashesEachRunRow : OpenClaim := { program := "qxb6601218a", sum := "81751026676c7fbdd2cfd75872dd6df8e4638c816d4bc3fda6135887f7180c11", func := "example.com/lichen/lichen/zzlaws_pkg_profile_b1.FnMergeSlashesSquashesEachRun", spec := "fnMergeSlashesSquashesEachRun", inPlace := ["internal/abi.NoEscape"], apart := false }
def FnMergeSlashesSquashesEachRunSaid : Prop := fnMergeSlashesSquashesEachRunRow.holds Try.pinned (OpenSpec.ofChange fnMergeSlashesSquashesEachRunSpec)

/-- ITS FALSE NEIGHBOUR: 'it returns false'. Refute it at one input. -/
def fnMergeSlashesSquashesEachRunWrong : ChangeSpec := { name := "fnMergeSlashesSquashesEachRun", fn := fun _ => fun
  | [d] => { results := [.lit (.bool false)], args := [d] }
  | _ => none }
def FnMergeSlashesSquashesEachRunWrongFalsely : Prop := fnMergeSlashesSquashesEachRunRow.holds Try.pinned (OpenSpec.ofChange fnMergeSlashesSquashesEachRunWrong)

/-- 'zzlaws_pkg_profile_b1.FnMergeSlashesIdempotent': WHATEVER THE INPUT: true; the input reads as it did. -/
def fnMergeSlashesIdempotentSpec : ChangeSpec := { name := "fnMergeSlashesIdempotent", fn := fun _ => fun
  | [d] => { results := [.lit (.bool true)], args := [d] }
  | _ => none }
def fnMergeSlashesIdempotentRow : OpenClaim := { program := "qxb6601218a", sum := "81751026676c7fbdd2cfd75872dd6df8e4638c816d4bc3fda6135887f7180c11", func := "example.com/lichen/lichen/zzlaws_pkg_profile_b1.FnMergeSlashesIdempotent", spec := "fnMergeSlashesIdempotent", inPlace := ["internal/abi.NoEscape"], apart := false }
def FnMergeSlashesIdempotentSaid : Prop := fnMergeSlashesIdempotentRow.holds Try.pinned (OpenSpec.ofChange fnMergeSlashesIdempotentSpec)

/-- ITS FALSE NEIGHBOUR: 'it returns false'. Refute it at one input. -/
def fnMergeSlashesIdempotentWrong : ChangeSpec := { name := "fnMergeSlashesIdempotent", fn := fun _ => fun
  | [d] => { results := [.lit (.bool false)], args := [d] }
  | _ => none }
def FnMergeSlashesIdempotentWrongFalsely : Prop := fnMergeSlashesIdempotentRow.holds Try.pinned (OpenSpec.ofChange fnMergeSlashesIdempotentWrong)

/-- 'zzlaws_pkg_profile_b1.FnMergeSlashesConcatenation': WHATEVER THE INPUT: true; the input reads as it did. -/
def fnMergeSlashesConcatenationSpec : ChangeSpec := { name := "fnMergeSlashesConcatenation", fn := fun _ => fun
  | [d1, d2] => { results := [.lit (.bool true)], args := [d1, d2] }
  | _ => none }
def fnMergeSlashesConcatenationRow : OpenClaim := { program := "qxb6601218a", sum := "81751026676c7fbdd2cfd75872dd6df8e4638c816d4bc3fda6135887f7180c11", func := "example.com/lichen/lichen/zzlaws_pkg_profile_b1.FnMergeSlashesConcatenation", spec := "fnMergeSlashesConcatenation", inPlace := ["internal/abi.NoEscape"], apart := false }
def FnMergeSlashesConcatenationSaid : Prop := fnMergeSlashesConcatenationRow.holds Try.pinned (OpenSpec.ofChange fnMergeSlashesConcatenationSpec)

/-- ITS FALSE NEIGHBOUR: 'it returns false'. Refute it at one input. -/
def fnMergeSlashesConcatenationWrong : ChangeSpec := { name := "fnMergeSlashesConcatenation", fn := fun _ => fun
  | [d1, d2] => { results := [.lit (.bool false)], args := [d1, d2] }
  | _ => none }
def FnMergeSlashesConcatenationWrongFalsely : Prop := fnMergeSlashesConcatenationRow.holds Try.pinned (OpenSpec.ofChange fnMergeSlashesConcatenationWrong)

end Rows
end Go.Proofs.Qxb6601218a
