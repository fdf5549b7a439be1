/-
  Seat b6605327aM: the given statement 'Rows.FnMergeKeysIsRightBiasedSortedUnionSaid', out of the walk in Qxb6605327aModsUnion.
-/
import Derived.Test.Qxb6605327aModsRows
import Derived.Test.Qxb6605327aModsUnion
import Derived.WalkKit
import Derived.ProofKit
import Derived.Test.Qxb6605327aModsArgs
namespace Go.Proofs.Qxb6605327aMods.fnMergeKeysIsRightBiasedSortedUnion
open Go.ChangeShapes Go.WideShapes Go.ChangeAt Go.RowKit
set_option linter.unusedVariables false

theorem laidOut : laidOutB Trym.prog = true := by kernel_rfl

theorem own : ownKnob Trym.prog.godebug = none := by kernel_rfl

set_option maxRecDepth 100000 in
theorem lifted (os : Os) (started : os.Started) (H : Type) (enc : TypeId × Value → H) :
    ReturnsInHanded {} Trym.checked os 3 .any (Rows.fnMergeKeysIsRightBiasedSortedUnionSpec.pre6 enc Trym.prog Trym.f3 Rows.fnMergeKeysIsRightBiasedSortedUnionRow.domain false) (Rows.fnMergeKeysIsRightBiasedSortedUnionSpec.post enc Trym.prog Trym.f3 false true false false) := by
  refine returnsInHanded_of_change (C := Trym.checked) own started (by kernel_rfl) Trym.func3
    (ChangeSpec.witness6 (enc := enc) (C := Trym.checked) false ⟨#[], #[.slice none 0 0, .slice none 0 0], []⟩ 8 (by kernel_rfl) (by kernel_rfl) (by kernel_rfl) (by kernel_rfl)) ?_
  intro W base args ds gs before hval0 hW hcnd _
  have hval : ∀ (j : Nat) t v, Trym.f3.params[j]? = some t → args[j]? = some v → Value.okWide Trym.prog W .any base t v := hval0
  have hW' := hW
  obtain ⟨p, q, hA0, hV, rfl, hfz, hnd⟩ := hW
  have hA : DataW.TrodAll enc Trym.prog W 0 (fun _ => true) true Trym.f3.params.toList args.toList ds p := hA0
  rw [Trym.params3] at hA hval
  obtain ⟨v0, vs0, d0, ds0, p0, q0, hargs, rfl, rfl, h0, r0⟩ := trodAll_cons hA
  obtain ⟨v1, vs1, d1, ds1, p1, q1, rfl, rfl, rfl, h1, r1⟩ := trodAll_cons r0
  obtain ⟨rfl, rfl, rfl⟩ := trodAll_nil r1
  obtain rfl : args = #[v0, v1] := by cases args; simp_all
  obtain ⟨rfl, rfl⟩ := trodVars_none hV
  obtain ⟨a0, len0, cap0, rfl⟩ := okWide_slice Trym.underlying22 (hval 0 22 v0 rfl rfl)
  obtain ⟨a1, len1, cap1, rfl⟩ := okWide_slice Trym.underlying22 (hval 1 22 v1 rfl rfl)
  have k0 := h0
  have k1 := h1
  have lt0 : ∀ x ∈ p0, x.block < W.heap.size := by obtain ⟨m, hm⟩ := k0; exact DataW.trod_lt m _ _ _ hm
  have lt1 : ∀ x ∈ p1, x.block < W.heap.size := by obtain ⟨m, hm⟩ := k1; exact DataW.trod_lt m _ _ _ hm
  obtain ⟨f0, hf0⟩ := h0
  obtain ⟨f1, hf1⟩ := h1
  have fin : ∀ (e : Ending) (W' : World), e = .returned (.bool true) ∧ Below W.heap.size W W' → ∃ v, e = .returned v ∧ Rows.fnMergeKeysIsRightBiasedSortedUnionSpec.post enc Trym.prog Trym.f3 false true false false W #[.slice a0 len0 cap0, .slice a1 len1 cap1] v W' := by
    rintro e W' ⟨rfl, bel⟩
    exact ⟨_, rfl, _, _, _, [], _, [], hW', trodAll_mk1 (shut_bool Trym.underlying4 _), (trodAll_mk2 (Below.trod laidOut (by kernel_rfl) (of_decide_eq_true (by kernel_rfl)) k0 bel lt0) (Below.trod laidOut (by kernel_rfl) (of_decide_eq_true (by kernel_rfl)) k1 bel lt1)), rfl, bel.frame _, fun h => by cases h⟩
  have fins : ∀ (e : Ending) (W' : World), e = .returned (.bool true) ∧ W = W' → ∃ v, e = .returned v ∧ Rows.fnMergeKeysIsRightBiasedSortedUnionSpec.post enc Trym.prog Trym.f3 false true false false W #[.slice a0 len0 cap0, .slice a1 len1 cap1] v W' := by
    rintro e W' ⟨he, rfl⟩
    exact fin e W ⟨he, Below.refl _ _⟩
  obtain ⟨A, bA, oA, rfl, nA, hAA, kA⟩ := arg_of hf0
  obtain ⟨B, bB, oB, rfl, nB, hBB, kB⟩ := arg_of hf1
  by_cases hl : A.length ≤ 65536 ∧ B.length ≤ 65536
  · exact (union_walk a0 a1 A B bA oA cap0 bB oB cap1 W hAA hBB nA nB kA kB hl.1 hl.2).mono fin
  · exact (union_big a0 a1 A B bA oA cap0 bB oB cap1 W hAA hBB nA nB kA kB hl).mono fins

theorem over : Rows.fnMergeKeysIsRightBiasedSortedUnionRow.holds Trym.pinned (OpenSpec.ofChange Rows.fnMergeKeysIsRightBiasedSortedUnionSpec) :=
  OpenClaim.holds_of_wide 3 Trym.f3 rfl rfl rfl rfl rfl rfl rfl ⟨rfl, rfl, rfl, rfl, rfl⟩ rfl rfl rfl rfl rfl (by kernel_rfl) Trym.func3 (by kernel_rfl)
    (of_decide_eq_true (by kernel_rfl)) (by unfold Func.isWrapper; first | (rw [if_pos (by decide +kernel)]; kernel_rfl) | (rw [if_neg (by decide +kernel)]; exact ⟨rfl, rfl⟩))
    (fun os started H enc _ => lifted os started H enc)

/-- THE STATEMENT -/
theorem proved : Rows.FnMergeKeysIsRightBiasedSortedUnionSaid :=
  over
#print axioms proved
end Go.Proofs.Qxb6605327aMods.fnMergeKeysIsRightBiasedSortedUnion
