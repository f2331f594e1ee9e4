/-
  No cell of these rows narrows 'for every input' (looked for: loops, veiled, ifaces, maps, wideKeys, modest, calm, conditions, laid).
  DERIVED. THE GIVEN ROWS OF THIS SEAT. 4 by the template 'for every input the law returns true; each argument reads behind the call as it read before'; 0 by the template 'total and deterministic' (their statements: Qxb6602467aModsTotals.lean).
  GIVEN WITH THE SEED: the statements are not yours to turn. If you find one false, say at which input.
  Laid BY PROGRAM, IN A SANDBOX (cutbox-rows.mjs): the forced cells as the released guide's own fill.sh prints them over the translation c200b52ad171f2a0… (all of the seat's roots in one cut). By AI agents, Wed Nov 11 2026. No macro, syntax, notation, axiom, sorry.
-/
import Derived.Test.Qxb6602467aModsChecked
import GoSem.Claim
import GoSem.ClaimJoined
import GoSem.ClaimMapViews
import Derived.JoinedTies
import Derived.KernelRfl
namespace Go.Proofs.Qxb6602467aMods
/- THE CELL 'sum', in the pinned program and in every row, IS THE sha256 OF THE DUMP (.gsa) THAT Qxb6602467aModsProg.lean LOADS. Nothing in Lean hashes anything: it is a label: what it is worth is what the hold of that sum in a sandbox is worth. -/
noncomputable def Trym.pinned : Pinned := { name := "qxb6602467amods", sum := "c200b52ad171f2a0be6b3fd80919835219d85aeb4d6c18a521b7aba98dee9c41", checked := Trym.checked }
namespace Rows
def none {H : Type} : Left H := { results := [], args := [] }

/-- 'zzlaws_root_b1.FnYieldsNoLiteralsMatchesZstdDecode': WHATEVER THE INPUT: true; the input reads as it did. -/
def fnYieldsNoLiteralsMatchesZstdDecodeSpec : ChangeSpec := { name := "fnYieldsNoLiteralsMatchesZstdDecode", fn := fun _ => fun
  | [d] => { results := [.lit (.bool true)], args := [d] }
  | _ => none }
def fnYieldsNoLiteralsMatchesZstdDecodeRow : OpenClaim := { program := "qxb6602467amods", sum := "c200b52ad171f2a0be6b3fd80919835219d85aeb4d6c18a521b7aba98dee9c41", func := "example.com/strata/strata/zzlaws_root_b1.FnYieldsNoLiteralsMatchesZstdDecode", spec := "fnYieldsNoLiteralsMatchesZstdDecode", make := .lifted ["publicsums"], apart := false }
def FnYieldsNoLiteralsMatchesZstdDecodeSaid : Prop := fnYieldsNoLiteralsMatchesZstdDecodeRow.holds Trym.pinned (OpenSpec.ofChange fnYieldsNoLiteralsMatchesZstdDecodeSpec)

/-- ITS FALSE NEIGHBOUR: 'it returns false'. Refute it at one input. -/
def fnYieldsNoLiteralsMatchesZstdDecodeWrong : ChangeSpec := { name := "fnYieldsNoLiteralsMatchesZstdDecode", fn := fun _ => fun
  | [d] => { results := [.lit (.bool false)], args := [d] }
  | _ => none }
def FnYieldsNoLiteralsMatchesZstdDecodeWrongFalsely : Prop := fnYieldsNoLiteralsMatchesZstdDecodeRow.holds Trym.pinned (OpenSpec.ofChange fnYieldsNoLiteralsMatchesZstdDecodeWrong)

/-- 'zzlaws_root_b1.FnYieldsNoLiteralsIsSelfDelimiting': WHATEVER THE INPUT: true; the input reads as it did. -/
def fnYieldsNoLiteralsIsSelfDelimitingSpec : ChangeSpec := { name := "fnYieldsNoLiteralsIsSelfDelimiting", fn := fun _ => fun
  | [d] => { results := [.lit (.bool true)], args := [d] }
  | _ => none }
def fnYieldsNoLiteralsIsSelfDelimitingRow : OpenClaim := { program := "qxb6602467amods", sum := "c200b52ad171f2a0be6b3fd80919835219d85aeb4d6c18a521b7aba98dee9c41", func := "example.com/strata/strata/zzlaws_root_b1.FnYieldsNoLiteralsIsSelfDelimiting", spec := "fnYieldsNoLiteralsIsSelfDelimiting", make := .lifted ["publicsums"], apart := false }
def FnYieldsNoLiteralsIsSelfDelimitingSaid : Prop := fnYieldsNoLiteralsIsSelfDelimitingRow.holds Trym.pinned (OpenSpec.ofChange fnYieldsNoLiteralsIsSelfDelimitingSpec)

/-- ITS FALSE NEIGHBOUR: 'it returns false'. Refute it at one input. -/
def fnYieldsNoLiteralsIsSelfDelimitingWrong : ChangeSpec := { name := "fnYieldsNoLiteralsIsSelfDelimiting", fn := fun _ => fun
  | [d] => { results := [.lit (.bool false)], args := [d] }
  | _ => none }
def FnYieldsNoLiteralsIsSelfDelimitingWrongFalsely : Prop := fnYieldsNoLiteralsIsSelfDelimitingRow.holds Trym.pinned (OpenSpec.ofChange fnYieldsNoLiteralsIsSelfDelimitingWrong)

/-- 'zzlaws_root_b1.FnCodeLengthRunsDecodesBack': WHATEVER THE INPUT: true; the input reads as it did. -/
def fnCodeLengthRunsDecodesBackSpec : ChangeSpec := { name := "fnCodeLengthRunsDecodesBack", fn := fun _ => fun
  | [d1, d2] => { results := [.lit (.bool true)], args := [d1, d2] }
  | _ => none }
def fnCodeLengthRunsDecodesBackRow : OpenClaim := { program := "qxb6602467amods", sum := "c200b52ad171f2a0be6b3fd80919835219d85aeb4d6c18a521b7aba98dee9c41", func := "example.com/strata/strata/zzlaws_root_b1.FnCodeLengthRunsDecodesBack", spec := "fnCodeLengthRunsDecodesBack", make := .lifted ["publicsums"], apart := false }
def FnCodeLengthRunsDecodesBackSaid : Prop := fnCodeLengthRunsDecodesBackRow.holds Trym.pinned (OpenSpec.ofChange fnCodeLengthRunsDecodesBackSpec)

/-- ITS FALSE NEIGHBOUR: 'it returns false'. Refute it at one input. -/
def fnCodeLengthRunsDecodesBackWrong : ChangeSpec := { name := "fnCodeLengthRunsDecodesBack", fn := fun _ => fun
  | [d1, d2] => { results := [.lit (.bool false)], args := [d1, d2] }
  | _ => none }
def FnCodeLengthRunsDecodesBackWrongFalsely : Prop := fnCodeLengthRunsDecodesBackRow.holds Trym.pinned (OpenSpec.ofChange fnCodeLengthRunsDecodesBackWrong)

/-- 'zzlaws_root_b1.FnCodeLengthRunsSplitsAtRunBoundaries': WHATEVER THE INPUT: true; the input reads as it did. -/
def fnCodeLengthRunsSplitsAtRunBoundariesSpec : ChangeSpec := { name := "fnCodeLengthRunsSplitsAtRunBoundaries", fn := fun _ => fun
  | [d1, d2] => { results := [.lit (.bool true)], args := [d1, d2] }
  | _ => none }
def fnCodeLengthRunsSplitsAtRunBoundariesRow : OpenClaim := { program := "qxb6602467amods", sum := "c200b52ad171f2a0be6b3fd80919835219d85aeb4d6c18a521b7aba98dee9c41", func := "example.com/strata/strata/zzlaws_root_b1.FnCodeLengthRunsSplitsAtRunBoundaries", spec := "fnCodeLengthRunsSplitsAtRunBoundaries", make := .lifted ["publicsums"], apart := false }
def FnCodeLengthRunsSplitsAtRunBoundariesSaid : Prop := fnCodeLengthRunsSplitsAtRunBoundariesRow.holds Trym.pinned (OpenSpec.ofChange fnCodeLengthRunsSplitsAtRunBoundariesSpec)

/-- ITS FALSE NEIGHBOUR: 'it returns false'. Refute it at one input. -/
def fnCodeLengthRunsSplitsAtRunBoundariesWrong : ChangeSpec := { name := "fnCodeLengthRunsSplitsAtRunBoundaries", fn := fun _ => fun
  | [d1, d2] => { results := [.lit (.bool false)], args := [d1, d2] }
  | _ => none }
def FnCodeLengthRunsSplitsAtRunBoundariesWrongFalsely : Prop := fnCodeLengthRunsSplitsAtRunBoundariesRow.holds Trym.pinned (OpenSpec.ofChange fnCodeLengthRunsSplitsAtRunBoundariesWrong)

end Rows
end Go.Proofs.Qxb6602467aMods
