/-
  No cell of these rows narrows 'for every input' (looked for: loops, veiled, ifaces, maps, wideKeys, modest, calm, conditions, laid).
  DERIVED. THE GIVEN ROWS OF THIS SEAT. 3 by the template 'for every input the law returns true; each argument reads behind the call as it read before'; 0 by the template 'total and deterministic' (their statements: Qxb6603298aModsTotals.lean).
  GIVEN WITH THE SEED: the statements are not yours to turn. If you find one false, say at which input.
  Laid BY PROGRAM, IN A SANDBOX (cutbox-rows.mjs): the forced cells as the released guide's own fill.sh prints them over the translation a3dd7baf91d649bf… (all of the seat's roots in one cut). By AI agents, Wed Nov 11 2026. No macro, syntax, notation, axiom, sorry.
-/
import Derived.Test.Qxb6603298aModsChecked
import GoSem.Claim
import GoSem.ClaimJoined
import GoSem.ClaimMapViews
import Derived.JoinedTies
import Derived.KernelRfl
namespace Go.Proofs.Qxb6603298aMods
/- THE CELL 'sum', in the pinned program and in every row, IS THE sha256 OF THE DUMP (.gsa) THAT Qxb6603298aModsProg.lean LOADS. Nothing in Lean hashes anything: it is a label: what it is worth is what the hold of that sum in a sandbox is worth. -/
noncomputable def Trym.pinned : Pinned := { name := "qxb6603298amods", sum := "a3dd7baf91d649bfc14c41fd1483ad24aa27ee0f18699c14899751f55df129f5", checked := Trym.checked }
namespace Rows
def none {H : Type} : Left H := { results := [], args := [] }

/-- 'zzlaws_internal_cgroupv1_b1.FnWithinMatchesComponentModel': WHATEVER THE INPUT: true; the input reads as it did. -/
def fnWithinMatchesComponentModelSpec : ChangeSpec := { name := "fnWithinMatchesComponentModel", fn := fun _ => fun
  | [d1, d2] => { results := [.lit (.bool true)], args := [d1, d2] }
  | _ => none }
def fnWithinMatchesComponentModelRow : OpenClaim := { program := "qxb6603298amods", sum := "a3dd7baf91d649bfc14c41fd1483ad24aa27ee0f18699c14899751f55df129f5", func := "example.com/nodeward/nodeward/zzlaws_internal_cgroupv1_b1.FnWithinMatchesComponentModel", spec := "fnWithinMatchesComponentModel", make := .lifted ["publicsums"], apart := false }
def FnWithinMatchesComponentModelSaid : Prop := fnWithinMatchesComponentModelRow.holds Trym.pinned (OpenSpec.ofChange fnWithinMatchesComponentModelSpec)

/-- ITS FALSE NEIGHBOUR: 'it returns false'. Refute it at one input. -/
def fnWithinMatchesComponentModelWrong : ChangeSpec := { name := "fnWithinMatchesComponentModel", fn := fun _ => fun
  | [d1, d2] => { results := [.lit (.bool false)], args := [d1, d2] }
  | _ => none }
def FnWithinMatchesComponentModelWrongFalsely : Prop := fnWithinMatchesComponentModelRow.holds Trym.pinned (OpenSpec.ofChange fnWithinMatchesComponentModelWrong)

/-- 'zzlaws_internal_cgroupv1_b1.FnWithinRelativeJoinsBack': WHATEVER THE INPUT: true; the input reads as it did. -/
def fnWithinRelativeJoinsBackSpec : ChangeSpec := { name := "fnWithinRelativeJoinsBack", fn := fun _ => fun
  | [d1, d2, d3] => { results := [.lit (.bool true)], args := [d1, d2, d3] }
  | _ => none }
def fnWithinRelativeJoinsBackRow : OpenClaim := { program := "qxb6603298amods", sum := "a3dd7baf91d649bfc14c41fd1483ad24aa27ee0f18699c14899751f55df129f5", func := "example.com/nodeward/nodeward/zzlaws_internal_cgroupv1_b1.FnWithinRelativeJoinsBack", spec := "fnWithinRelativeJoinsBack", make := .lifted ["publicsums"], apart := false }
def FnWithinRelativeJoinsBackSaid : Prop := fnWithinRelativeJoinsBackRow.holds Trym.pinned (OpenSpec.ofChange fnWithinRelativeJoinsBackSpec)

/-- ITS FALSE NEIGHBOUR: 'it returns false'. Refute it at one input. -/
def fnWithinRelativeJoinsBackWrong : ChangeSpec := { name := "fnWithinRelativeJoinsBack", fn := fun _ => fun
  | [d1, d2, d3] => { results := [.lit (.bool false)], args := [d1, d2, d3] }
  | _ => none }
def FnWithinRelativeJoinsBackWrongFalsely : Prop := fnWithinRelativeJoinsBackRow.holds Trym.pinned (OpenSpec.ofChange fnWithinRelativeJoinsBackWrong)

/-- 'zzlaws_internal_cgroupv1_b1.FnWithinComposes': WHATEVER THE INPUT: true; the input reads as it did. -/
def fnWithinComposesSpec : ChangeSpec := { name := "fnWithinComposes", fn := fun _ => fun
  | [d1, d2, d3] => { results := [.lit (.bool true)], args := [d1, d2, d3] }
  | _ => none }
def fnWithinComposesRow : OpenClaim := { program := "qxb6603298amods", sum := "a3dd7baf91d649bfc14c41fd1483ad24aa27ee0f18699c14899751f55df129f5", func := "example.com/nodeward/nodeward/zzlaws_internal_cgroupv1_b1.FnWithinComposes", spec := "fnWithinComposes", make := .lifted ["publicsums"], apart := false }
def FnWithinComposesSaid : Prop := fnWithinComposesRow.holds Trym.pinned (OpenSpec.ofChange fnWithinComposesSpec)

/-- ITS FALSE NEIGHBOUR: 'it returns false'. Refute it at one input. -/
def fnWithinComposesWrong : ChangeSpec := { name := "fnWithinComposes", fn := fun _ => fun
  | [d1, d2, d3] => { results := [.lit (.bool false)], args := [d1, d2, d3] }
  | _ => none }
def FnWithinComposesWrongFalsely : Prop := fnWithinComposesRow.holds Trym.pinned (OpenSpec.ofChange fnWithinComposesWrong)

end Rows
end Go.Proofs.Qxb6603298aMods
