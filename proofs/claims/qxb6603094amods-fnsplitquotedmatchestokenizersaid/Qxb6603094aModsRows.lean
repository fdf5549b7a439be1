/-
  No cell of these rows narrows 'for every input' (looked for: loops, veiled, ifaces, maps, wideKeys, modest, calm, conditions, laid).
  DERIVED. THE GIVEN ROWS OF THIS SEAT. 3 by the template 'for every input the law returns true; each argument reads behind the call as it read before'; 0 by the template 'total and deterministic' (their statements: Qxb6603094aModsTotals.lean).
  GIVEN WITH THE SEED: the statements are not yours to turn. If you find one false, say at which input.
  Laid BY PROGRAM, IN A SANDBOX (cutbox-rows.mjs): the forced cells as the released guide's own fill.sh prints them over the translation 5cd68fce21444be8… (all of the seat's roots in one cut). By AI agents, Wed Nov 11 2026. No macro, syntax, notation, axiom, sorry.
-/
import Derived.Test.Qxb6603094aModsChecked
import GoSem.Claim
import GoSem.ClaimJoined
import GoSem.ClaimMapViews
import Derived.JoinedTies
import Derived.KernelRfl
namespace Go.Proofs.Qxb6603094aMods
/- THE CELL 'sum', in the pinned program and in every row, IS THE sha256 OF THE DUMP (.gsa) THAT Qxb6603094aModsProg.lean LOADS. Nothing in Lean hashes anything: it is a label: what it is worth is what the hold of that sum in a sandbox is worth. -/
noncomputable def Trym.pinned : Pinned := { name := "qxb6603094amods", sum := "5cd68fce21444be8d0069f50444a5985179fe91bd579230513d40f62dcf16461", checked := Trym.checked }
namespace Rows
def none {H : Type} : Left H := { results := [], args := [] }

/-- 'zzlaws_internal_server_b1.FnSplitQuotedMatchesTokenizer': WHATEVER THE INPUT: true; the input reads as it did. -/
def fnSplitQuotedMatchesTokenizerSpec : ChangeSpec := { name := "fnSplitQuotedMatchesTokenizer", fn := fun _ => fun
  | [d1, d2] => { results := [.lit (.bool true)], args := [d1, d2] }
  | _ => none }
def fnSplitQuotedMatchesTokenizerRow : OpenClaim := { program := "qxb6603094amods", sum := "5cd68fce21444be8d0069f50444a5985179fe91bd579230513d40f62dcf16461", func := "example.com/objectwell/objectwell/zzlaws_internal_server_b1.FnSplitQuotedMatchesTokenizer", spec := "fnSplitQuotedMatchesTokenizer", make := .lifted ["publicsums"], apart := false }
def FnSplitQuotedMatchesTokenizerSaid : Prop := fnSplitQuotedMatchesTokenizerRow.holds Trym.pinned (OpenSpec.ofChange fnSplitQuotedMatchesTokenizerSpec)

/-- ITS FALSE NEIGHBOUR: 'it returns false'. Refute it at one input. -/
def fnSplitQuotedMatchesTokenizerWrong : ChangeSpec := { name := "fnSplitQuotedMatchesTokenizer", fn := fun _ => fun
  | [d1, d2] => { results := [.lit (.bool false)], args := [d1, d2] }
  | _ => none }
def FnSplitQuotedMatchesTokenizerWrongFalsely : Prop := fnSplitQuotedMatchesTokenizerRow.holds Trym.pinned (OpenSpec.ofChange fnSplitQuotedMatchesTokenizerWrong)

/-- 'zzlaws_internal_server_b1.FnSplitQuotedJoinRoundTrip': WHATEVER THE INPUT: true; the input reads as it did. -/
def fnSplitQuotedJoinRoundTripSpec : ChangeSpec := { name := "fnSplitQuotedJoinRoundTrip", fn := fun _ => fun
  | [d1, d2] => { results := [.lit (.bool true)], args := [d1, d2] }
  | _ => none }
def fnSplitQuotedJoinRoundTripRow : OpenClaim := { program := "qxb6603094amods", sum := "5cd68fce21444be8d0069f50444a5985179fe91bd579230513d40f62dcf16461", func := "example.com/objectwell/objectwell/zzlaws_internal_server_b1.FnSplitQuotedJoinRoundTrip", spec := "fnSplitQuotedJoinRoundTrip", make := .lifted ["publicsums"], apart := false }
def FnSplitQuotedJoinRoundTripSaid : Prop := fnSplitQuotedJoinRoundTripRow.holds Trym.pinned (OpenSpec.ofChange fnSplitQuotedJoinRoundTripSpec)

/-- ITS FALSE NEIGHBOUR: 'it returns false'. Refute it at one input. -/
def fnSplitQuotedJoinRoundTripWrong : ChangeSpec := { name := "fnSplitQuotedJoinRoundTrip", fn := fun _ => fun
  | [d1, d2] => { results := [.lit (.bool false)], args := [d1, d2] }
  | _ => none }
def FnSplitQuotedJoinRoundTripWrongFalsely : Prop := fnSplitQuotedJoinRoundTripRow.holds Trym.pinned (OpenSpec.ofChange fnSplitQuotedJoinRoundTripWrong)

/-- 'zzlaws_internal_server_b1.FnSplitQuotedPartsSplitNoFurther': WHATEVER THE INPUT: true; the input reads as it did. -/
def fnSplitQuotedPartsSplitNoFurtherSpec : ChangeSpec := { name := "fnSplitQuotedPartsSplitNoFurther", fn := fun _ => fun
  | [d1, d2] => { results := [.lit (.bool true)], args := [d1, d2] }
  | _ => none }
def fnSplitQuotedPartsSplitNoFurtherRow : OpenClaim := { program := "qxb6603094amods", sum := "5cd68fce21444be8d0069f50444a5985179fe91bd579230513d40f62dcf16461", func := "example.com/objectwell/objectwell/zzlaws_internal_server_b1.FnSplitQuotedPartsSplitNoFurther", spec := "fnSplitQuotedPartsSplitNoFurther", make := .lifted ["publicsums"], apart := false }
def FnSplitQuotedPartsSplitNoFurtherSaid : Prop := fnSplitQuotedPartsSplitNoFurtherRow.holds Trym.pinned (OpenSpec.ofChange fnSplitQuotedPartsSplitNoFurtherSpec)

/-- ITS FALSE NEIGHBOUR: 'it returns false'. Refute it at one input. -/
def fnSplitQuotedPartsSplitNoFurtherWrong : ChangeSpec := { name := "fnSplitQuotedPartsSplitNoFurther", fn := fun _ => fun
  | [d1, d2] => { results := [.lit (.bool false)], args := [d1, d2] }
  | _ => none }
def FnSplitQuotedPartsSplitNoFurtherWrongFalsely : Prop := fnSplitQuotedPartsSplitNoFurtherRow.holds Trym.pinned (OpenSpec.ofChange fnSplitQuotedPartsSplitNoFurtherWrong)

end Rows
end Go.Proofs.Qxb6603094aMods
