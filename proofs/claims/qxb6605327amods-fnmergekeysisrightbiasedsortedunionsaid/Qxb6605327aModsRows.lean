/-
  No cell of these rows narrows 'for every input' (looked for: loops, veiled, ifaces, maps, wideKeys, modest, calm, conditions, laid).
  DERIVED. THE GIVEN ROWS OF THIS SEAT. 2 by the template 'for every input the law returns true; each argument reads behind the call as it read before'; 0 by the template 'total and deterministic' (their statements: Qxb6605327aModsTotals.lean).
  GIVEN WITH THE SEED: the statements are not yours to turn. If you find one false, say at which input.
  Laid BY PROGRAM, IN A SANDBOX (cutbox-rows.mjs): the forced cells as the released guide's own fill.sh prints them over the translation 10e3c2acb273c862… (all of the seat's roots in one cut). By AI agents, Wed Nov 11 2026. No macro, syntax, notation, axiom, sorry.
-/
import Derived.Test.Qxb6605327aModsChecked
import GoSem.Claim
import GoSem.ClaimJoined
import GoSem.ClaimMapViews
import Derived.JoinedTies
import Derived.KernelRfl
namespace Go.Proofs.Qxb6605327aMods
/- THE CELL 'sum', in the pinned program and in every row, IS THE sha256 OF THE DUMP (.gsa) THAT Qxb6605327aModsProg.lean LOADS. Nothing in Lean hashes anything: it is a label: what it is worth is what the hold of that sum in a sandbox is worth. -/
noncomputable def Trym.pinned : Pinned := { name := "qxb6605327amods", sum := "10e3c2acb273c8624d7a35bc4c97ba6c029d3e8b88f9c6a08f0d0265a63975f9", checked := Trym.checked }
namespace Rows
def none {H : Type} : Left H := { results := [], args := [] }

/-- 'zzlaws_root_b1.FnMergeKeysIsRightBiasedSortedUnion': WHATEVER THE INPUT: true; the input reads as it did. -/
def fnMergeKeysIsRightBiasedSortedUnionSpec : ChangeSpec := { name := "fnMergeKeysIsRightBiasedSortedUnion", fn := fun _ => fun
  | [d1, d2] => { results := [.lit (.bool true)], args := [d1, d2] }
  | _ => none }
def fnMergeKeysIsRightBiasedSortedUnionRow : OpenClaim := { program := "qxb6605327amods", sum := "10e3c2acb273c8624d7a35bc4c97ba6c029d3e8b88f9c6a08f0d0265a63975f9", func := "example.com/chronocut/chronocut/zzlaws_root_b1.FnMergeKeysIsRightBiasedSortedUnion", spec := "fnMergeKeysIsRightBiasedSortedUnion", make := .lifted ["publicsums"], apart := false }
def FnMergeKeysIsRightBiasedSortedUnionSaid : Prop := fnMergeKeysIsRightBiasedSortedUnionRow.holds Trym.pinned (OpenSpec.ofChange fnMergeKeysIsRightBiasedSortedUnionSpec)

/-- ITS FALSE NEIGHBOUR: 'it returns false'. Refute it at one input. -/
def fnMergeKeysIsRightBiasedSortedUnionWrong : ChangeSpec := { name := "fnMergeKeysIsRightBiasedSortedUnion", fn := fun _ => fun
  | [d1, d2] => { results := [.lit (.bool false)], args := [d1, d2] }
  | _ => none }
def FnMergeKeysIsRightBiasedSortedUnionWrongFalsely : Prop := fnMergeKeysIsRightBiasedSortedUnionRow.holds Trym.pinned (OpenSpec.ofChange fnMergeKeysIsRightBiasedSortedUnionWrong)

/-- 'zzlaws_root_b1.FnMergeKeysBatchesFoldInEitherOrder': WHATEVER THE INPUT: true; the input reads as it did. -/
def fnMergeKeysBatchesFoldInEitherOrderSpec : ChangeSpec := { name := "fnMergeKeysBatchesFoldInEitherOrder", fn := fun _ => fun
  | [d1, d2, d3] => { results := [.lit (.bool true)], args := [d1, d2, d3] }
  | _ => none }
def fnMergeKeysBatchesFoldInEitherOrderRow : OpenClaim := { program := "qxb6605327amods", sum := "10e3c2acb273c8624d7a35bc4c97ba6c029d3e8b88f9c6a08f0d0265a63975f9", func := "example.com/chronocut/chronocut/zzlaws_root_b1.FnMergeKeysBatchesFoldInEitherOrder", spec := "fnMergeKeysBatchesFoldInEitherOrder", make := .lifted ["publicsums"], apart := false }
def FnMergeKeysBatchesFoldInEitherOrderSaid : Prop := fnMergeKeysBatchesFoldInEitherOrderRow.holds Trym.pinned (OpenSpec.ofChange fnMergeKeysBatchesFoldInEitherOrderSpec)

/-- ITS FALSE NEIGHBOUR: 'it returns false'. Refute it at one input. -/
def fnMergeKeysBatchesFoldInEitherOrderWrong : ChangeSpec := { name := "fnMergeKeysBatchesFoldInEitherOrder", fn := fun _ => fun
  | [d1, d2, d3] => { results := [.lit (.bool false)], args := [d1, d2, d3] }
  | _ => none }
def FnMergeKeysBatchesFoldInEitherOrderWrongFalsely : Prop := fnMergeKeysBatchesFoldInEitherOrderRow.holds Trym.pinned (OpenSpec.ofChange fnMergeKeysBatchesFoldInEitherOrderWrong)

end Rows
end Go.Proofs.Qxb6605327aMods
