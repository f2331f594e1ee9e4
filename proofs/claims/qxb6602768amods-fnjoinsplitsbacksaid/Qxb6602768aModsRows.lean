/-
  No cell of these rows narrows 'for every input' (looked for: loops, veiled, ifaces, maps, wideKeys, modest, calm, conditions, laid).
  DERIVED. THE GIVEN ROWS OF THIS SEAT. 2 by the template 'for every input the law returns true; each argument reads behind the call as it read before'; 0 by the template 'total and deterministic' (their statements: Qxb6602768aModsTotals.lean).
  GIVEN WITH THE SEED: the statements are not yours to turn. If you find one false, say at which input.
  Laid BY PROGRAM, IN A SANDBOX (cutbox-rows.mjs): the forced cells as the released guide's own fill.sh prints them over the translation bd45aad159988330… (all of the seat's roots in one cut). By AI agents, Wed Nov 11 2026. No macro, syntax, notation, axiom, sorry.
-/
import Derived.Test.Qxb6602768aModsChecked
import GoSem.Claim
import GoSem.ClaimJoined
import GoSem.ClaimMapViews
import Derived.JoinedTies
import Derived.KernelRfl
namespace Go.Proofs.Qxb6602768aMods
/- THE CELL 'sum', in the pinned program and in every row, IS THE sha256 OF THE DUMP (.gsa) THAT Qxb6602768aModsProg.lean LOADS. Nothing in Lean hashes anything: it is a label: what it is worth is what the hold of that sum in a sandbox is worth. -/
noncomputable def Trym.pinned : Pinned := { name := "qxb6602768amods", sum := "bd45aad1599883304e919abc89fdcbca699079b46ac50fbf7d826b93358196ce", checked := Trym.checked }
namespace Rows
def none {H : Type} : Left H := { results := [], args := [] }

/-- 'zzlaws_charter_b1.FnJoinSplitsBack': WHATEVER THE INPUT: true; the input reads as it did. -/
def fnJoinSplitsBackSpec : ChangeSpec := { name := "fnJoinSplitsBack", fn := fun _ => fun
  | [d1, d2] => { results := [.lit (.bool true)], args := [d1, d2] }
  | _ => none }
def fnJoinSplitsBackRow : OpenClaim := { program := "qxb6602768amods", sum := "bd45aad1599883304e919abc89fdcbca699079b46ac50fbf7d826b93358196ce", func := "example.com/charterfold/charterfold/zzlaws_charter_b1.FnJoinSplitsBack", spec := "fnJoinSplitsBack", make := .lifted ["publicsums"], apart := false }
def FnJoinSplitsBackSaid : Prop := fnJoinSplitsBackRow.holds Trym.pinned (OpenSpec.ofChange fnJoinSplitsBackSpec)

/-- ITS FALSE NEIGHBOUR: 'it returns false'. Refute it at one input. -/
def fnJoinSplitsBackWrong : ChangeSpec := { name := "fnJoinSplitsBack", fn := fun _ => fun
  | [d1, d2] => { results := [.lit (.bool false)], args := [d1, d2] }
  | _ => none }
def FnJoinSplitsBackWrongFalsely : Prop := fnJoinSplitsBackRow.holds Trym.pinned (OpenSpec.ofChange fnJoinSplitsBackWrong)

/-- 'zzlaws_charter_b1.FnJoinAssociative': WHATEVER THE INPUT: true; the input reads as it did. -/
def fnJoinAssociativeSpec : ChangeSpec := { name := "fnJoinAssociative", fn := fun _ => fun
  | [d1, d2, d3] => { results := [.lit (.bool true)], args := [d1, d2, d3] }
  | _ => none }
def fnJoinAssociativeRow : OpenClaim := { program := "qxb6602768amods", sum := "bd45aad1599883304e919abc89fdcbca699079b46ac50fbf7d826b93358196ce", func := "example.com/charterfold/charterfold/zzlaws_charter_b1.FnJoinAssociative", spec := "fnJoinAssociative", make := .lifted ["publicsums"], apart := false }
def FnJoinAssociativeSaid : Prop := fnJoinAssociativeRow.holds Trym.pinned (OpenSpec.ofChange fnJoinAssociativeSpec)

/-- ITS FALSE NEIGHBOUR: 'it returns false'. Refute it at one input. -/
def fnJoinAssociativeWrong : ChangeSpec := { name := "fnJoinAssociative", fn := fun _ => fun
  | [d1, d2, d3] => { results := [.lit (.bool false)], args := [d1, d2, d3] }
  | _ => none }
def FnJoinAssociativeWrongFalsely : Prop := fnJoinAssociativeRow.holds Trym.pinned (OpenSpec.ofChange fnJoinAssociativeWrong)

end Rows
end Go.Proofs.Qxb6602768aMods
