/-
  No cell of these rows narrows 'for every input' (looked for: loops, veiled, ifaces, maps, wideKeys, modest, calm, conditions, laid).
  DERIVED. THE GIVEN ROWS OF THIS SEAT. 1 by the template 'for every input the law returns true; each argument reads behind the call as it read before'; 0 by the template 'total and deterministic' (their statements: Qxb6604299aModsTotals.lean).
  GIVEN WITH THE SEED: the statements are not yours to turn. If you find one false, say at which input.
  Laid BY PROGRAM, IN A SANDBOX (cutbox-rows.mjs): the forced cells as the released guide's own fill.sh prints them over the translation 6f981b449af07c9d… (all of the seat's roots in one cut). By AI agents, Wed Nov 11 2026. No macro, syntax, notation, axiom, sorry.
-/
import Derived.Test.Qxb6604299aModsChecked
import GoSem.Claim
import GoSem.ClaimJoined
import GoSem.ClaimMapViews
import Derived.JoinedTies
import Derived.KernelRfl
namespace Go.Proofs.Qxb6604299aMods
/- THE CELL 'sum', in the pinned program and in every row, IS THE sha256 OF THE DUMP (.gsa) THAT Qxb6604299aModsProg.lean LOADS. Nothing in Lean hashes anything: it is a label: what it is worth is what the hold of that sum in a sandbox is worth. -/
noncomputable def Trym.pinned : Pinned := { name := "qxb6604299amods", sum := "6f981b449af07c9de4c211f72b67c03b9ca3c3c9409df239bfb6ced14aff7341", checked := Trym.checked }
namespace Rows
def none {H : Type} : Left H := { results := [], args := [] }

/-- 'zzlaws_register_b1.FnTextScriptInternsEachText': WHATEVER THE INPUT: true; the input reads as it did. -/
def fnTextScriptInternsEachTextSpec : ChangeSpec := { name := "fnTextScriptInternsEachText", fn := fun _ => fun
  | [d1, d2] => { results := [.lit (.bool true)], args := [d1, d2] }
  | _ => none }
def fnTextScriptInternsEachTextRow : OpenClaim := { program := "qxb6604299amods", sum := "6f981b449af07c9de4c211f72b67c03b9ca3c3c9409df239bfb6ced14aff7341", func := "example.com/zhaomu/zhaomu/zzlaws_register_b1.FnTextScriptInternsEachText", spec := "fnTextScriptInternsEachText", make := .lifted ["publicsums"], apart := false }
def FnTextScriptInternsEachTextSaid : Prop := fnTextScriptInternsEachTextRow.holds Trym.pinned (OpenSpec.ofChange fnTextScriptInternsEachTextSpec)

/-- ITS FALSE NEIGHBOUR: 'it returns false'. Refute it at one input. -/
def fnTextScriptInternsEachTextWrong : ChangeSpec := { name := "fnTextScriptInternsEachText", fn := fun _ => fun
  | [d1, d2] => { results := [.lit (.bool false)], args := [d1, d2] }
  | _ => none }
def FnTextScriptInternsEachTextWrongFalsely : Prop := fnTextScriptInternsEachTextRow.holds Trym.pinned (OpenSpec.ofChange fnTextScriptInternsEachTextWrong)

end Rows
end Go.Proofs.Qxb6604299aMods
