/-
  No cell of these rows narrows 'for every input' (looked for: loops, veiled, ifaces, maps, wideKeys, modest, calm, conditions, laid).
  DERIVED. THE GIVEN ROWS OF THIS SEAT. 2 by the template 'for every input the law returns true; each argument reads behind the call as it read before'; 0 by the template 'total and deterministic' (their statements: Qxb6602620aModsTotals.lean).
  GIVEN WITH THE SEED: the statements are not yours to turn. If you find one false, say at which input.
  Laid BY PROGRAM, IN A SANDBOX (cutbox-rows.mjs): the forced cells as the released guide's own fill.sh prints them over the translation ebcbf8a7bf8a6c15… (all of the seat's roots in one cut). By AI agents, Wed Nov 11 2026. No macro, syntax, notation, axiom, sorry.
-/
import Derived.Test.Qxb6602620aModsChecked
import GoSem.Claim
import GoSem.ClaimJoined
import GoSem.ClaimMapViews
import Derived.JoinedTies
import Derived.KernelRfl
namespace Go.Proofs.Qxb6602620aMods
/- THE CELL 'sum', in the pinned program and in every row, IS THE sha256 OF THE DUMP (.gsa) THAT Qxb6602620aModsProg.lean LOADS. Nothing in Lean hashes anything: it is a label: what it is worth is what the hold of that sum in a sandbox is worth. -/
noncomputable def Trym.pinned : Pinned := { name := "qxb6602620amods", sum := "ebcbf8a7bf8a6c154047dd8bc3565d02b92c8891876daaa0031e9a5b38c01c2a", checked := Trym.checked }
namespace Rows
def none {H : Type} : Left H := { results := [], args := [] }

/-- 'zzlaws_internal_ifupdown_b1.FnRunPartsNameAlphabet': WHATEVER THE INPUT: true; the input reads as it did. -/
def fnRunPartsNameAlphabetSpec : ChangeSpec := { name := "fnRunPartsNameAlphabet", fn := fun _ => fun
  | [d] => { results := [.lit (.bool true)], args := [d] }
  | _ => none }
def fnRunPartsNameAlphabetRow : OpenClaim := { program := "qxb6602620amods", sum := "ebcbf8a7bf8a6c154047dd8bc3565d02b92c8891876daaa0031e9a5b38c01c2a", func := "example.com/glean-from-etc/glean-from-etc/zzlaws_internal_ifupdown_b1.FnRunPartsNameAlphabet", spec := "fnRunPartsNameAlphabet", make := .lifted ["publicsums"], apart := false }
def FnRunPartsNameAlphabetSaid : Prop := fnRunPartsNameAlphabetRow.holds Trym.pinned (OpenSpec.ofChange fnRunPartsNameAlphabetSpec)

/-- ITS FALSE NEIGHBOUR: 'it returns false'. Refute it at one input. -/
def fnRunPartsNameAlphabetWrong : ChangeSpec := { name := "fnRunPartsNameAlphabet", fn := fun _ => fun
  | [d] => { results := [.lit (.bool false)], args := [d] }
  | _ => none }
def FnRunPartsNameAlphabetWrongFalsely : Prop := fnRunPartsNameAlphabetRow.holds Trym.pinned (OpenSpec.ofChange fnRunPartsNameAlphabetWrong)

/-- 'zzlaws_internal_ifupdown_b1.FnRunPartsNameConcat': WHATEVER THE INPUT: true; the input reads as it did. -/
def fnRunPartsNameConcatSpec : ChangeSpec := { name := "fnRunPartsNameConcat", fn := fun _ => fun
  | [d1, d2] => { results := [.lit (.bool true)], args := [d1, d2] }
  | _ => none }
def fnRunPartsNameConcatRow : OpenClaim := { program := "qxb6602620amods", sum := "ebcbf8a7bf8a6c154047dd8bc3565d02b92c8891876daaa0031e9a5b38c01c2a", func := "example.com/glean-from-etc/glean-from-etc/zzlaws_internal_ifupdown_b1.FnRunPartsNameConcat", spec := "fnRunPartsNameConcat", make := .lifted ["publicsums"], apart := false }
def FnRunPartsNameConcatSaid : Prop := fnRunPartsNameConcatRow.holds Trym.pinned (OpenSpec.ofChange fnRunPartsNameConcatSpec)

/-- ITS FALSE NEIGHBOUR: 'it returns false'. Refute it at one input. -/
def fnRunPartsNameConcatWrong : ChangeSpec := { name := "fnRunPartsNameConcat", fn := fun _ => fun
  | [d1, d2] => { results := [.lit (.bool false)], args := [d1, d2] }
  | _ => none }
def FnRunPartsNameConcatWrongFalsely : Prop := fnRunPartsNameConcatRow.holds Trym.pinned (OpenSpec.ofChange fnRunPartsNameConcatWrong)

end Rows
end Go.Proofs.Qxb6602620aMods
