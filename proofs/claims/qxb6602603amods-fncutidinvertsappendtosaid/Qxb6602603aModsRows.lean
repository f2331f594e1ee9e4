/-
  No cell of these rows narrows 'for every input' (looked for: loops, veiled, ifaces, maps, wideKeys, modest, calm, conditions, laid).
  DERIVED. THE GIVEN ROWS OF THIS SEAT. 3 by the template 'for every input the law returns true; each argument reads behind the call as it read before'; 0 by the template 'total and deterministic' (their statements: Qxb6602603aModsTotals.lean).
  GIVEN WITH THE SEED: the statements are not yours to turn. If you find one false, say at which input.
  Laid BY PROGRAM, IN A SANDBOX (cutbox-rows.mjs): the forced cells as the released guide's own fill.sh prints them over the translation 208b254dd52675f5… (all of the seat's roots in one cut). By AI agents, Wed Nov 11 2026. No macro, syntax, notation, axiom, sorry.
-/
import Derived.Test.Qxb6602603aModsChecked
import GoSem.Claim
import GoSem.ClaimJoined
import GoSem.ClaimMapViews
import Derived.JoinedTies
import Derived.KernelRfl
namespace Go.Proofs.Qxb6602603aMods
/- THE CELL 'sum', in the pinned program and in every row, IS THE sha256 OF THE DUMP (.gsa) THAT Qxb6602603aModsProg.lean LOADS. Nothing in Lean hashes anything: it is a label: what it is worth is what the hold of that sum in a sandbox is worth. -/
noncomputable def Trym.pinned : Pinned := { name := "qxb6602603amods", sum := "208b254dd52675f58718f6e196363a34587ded24b38f5b93e256bd4c70cf9878", checked := Trym.checked }
namespace Rows
def none {H : Type} : Left H := { results := [], args := [] }

/-- 'zzlaws_pkg_mesh_b1.FnCutIDSpec': WHATEVER THE INPUT: true; the input reads as it did. -/
def fnCutIDSpecSpec : ChangeSpec := { name := "fnCutIDSpec", fn := fun _ => fun
  | [d] => { results := [.lit (.bool true)], args := [d] }
  | _ => none }
def fnCutIDSpecRow : OpenClaim := { program := "qxb6602603amods", sum := "208b254dd52675f58718f6e196363a34587ded24b38f5b93e256bd4c70cf9878", func := "example.com/workmesh/workmesh/zzlaws_pkg_mesh_b1.FnCutIDSpec", spec := "fnCutIDSpec", make := .lifted ["publicsums"], apart := false }
def FnCutIDSpecSaid : Prop := fnCutIDSpecRow.holds Trym.pinned (OpenSpec.ofChange fnCutIDSpecSpec)

/-- ITS FALSE NEIGHBOUR: 'it returns false'. Refute it at one input. -/
def fnCutIDSpecWrong : ChangeSpec := { name := "fnCutIDSpec", fn := fun _ => fun
  | [d] => { results := [.lit (.bool false)], args := [d] }
  | _ => none }
def FnCutIDSpecWrongFalsely : Prop := fnCutIDSpecRow.holds Trym.pinned (OpenSpec.ofChange fnCutIDSpecWrong)

/-- 'zzlaws_pkg_mesh_b1.FnCutIDInvertsAppendTo': WHATEVER THE INPUT: true; the input reads as it did. -/
def fnCutIDInvertsAppendToSpec : ChangeSpec := { name := "fnCutIDInvertsAppendTo", fn := fun _ => fun
  | [d1, d2, d3, d4, d5, d6] => { results := [.lit (.bool true)], args := [d1, d2, d3, d4, d5, d6] }
  | _ => none }
def fnCutIDInvertsAppendToRow : OpenClaim := { program := "qxb6602603amods", sum := "208b254dd52675f58718f6e196363a34587ded24b38f5b93e256bd4c70cf9878", func := "example.com/workmesh/workmesh/zzlaws_pkg_mesh_b1.FnCutIDInvertsAppendTo", spec := "fnCutIDInvertsAppendTo", make := .lifted ["publicsums"], apart := false }
def FnCutIDInvertsAppendToSaid : Prop := fnCutIDInvertsAppendToRow.holds Trym.pinned (OpenSpec.ofChange fnCutIDInvertsAppendToSpec)

/-- ITS FALSE NEIGHBOUR: 'it returns false'. Refute it at one input. -/
def fnCutIDInvertsAppendToWrong : ChangeSpec := { name := "fnCutIDInvertsAppendTo", fn := fun _ => fun
  | [d1, d2, d3, d4, d5, d6] => { results := [.lit (.bool false)], args := [d1, d2, d3, d4, d5, d6] }
  | _ => none }
def FnCutIDInvertsAppendToWrongFalsely : Prop := fnCutIDInvertsAppendToRow.holds Trym.pinned (OpenSpec.ofChange fnCutIDInvertsAppendToWrong)

/-- 'zzlaws_pkg_mesh_b1.FnTruncateComposes': WHATEVER THE INPUT: true; the input reads as it did. -/
def fnTruncateComposesSpec : ChangeSpec := { name := "fnTruncateComposes", fn := fun _ => fun
  | [d1, d2, d3] => { results := [.lit (.bool true)], args := [d1, d2, d3] }
  | _ => none }
def fnTruncateComposesRow : OpenClaim := { program := "qxb6602603amods", sum := "208b254dd52675f58718f6e196363a34587ded24b38f5b93e256bd4c70cf9878", func := "example.com/workmesh/workmesh/zzlaws_pkg_mesh_b1.FnTruncateComposes", spec := "fnTruncateComposes", make := .lifted ["publicsums"], apart := false }
def FnTruncateComposesSaid : Prop := fnTruncateComposesRow.holds Trym.pinned (OpenSpec.ofChange fnTruncateComposesSpec)

/-- ITS FALSE NEIGHBOUR: 'it returns false'. Refute it at one input. -/
def fnTruncateComposesWrong : ChangeSpec := { name := "fnTruncateComposes", fn := fun _ => fun
  | [d1, d2, d3] => { results := [.lit (.bool false)], args := [d1, d2, d3] }
  | _ => none }
def FnTruncateComposesWrongFalsely : Prop := fnTruncateComposesRow.holds Trym.pinned (OpenSpec.ofChange fnTruncateComposesWrong)

end Rows
end Go.Proofs.Qxb6602603aMods
