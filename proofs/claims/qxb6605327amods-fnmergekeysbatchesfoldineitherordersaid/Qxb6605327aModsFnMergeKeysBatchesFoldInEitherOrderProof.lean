/-
  Seat b6605327aM: the given statement 'Rows.FnMergeKeysBatchesFoldInEitherOrderSaid', out of the walk in Qxb6605327aModsFold.
-/
import Derived.Test.Qxb6605327aModsRows
import Derived.Test.Qxb6605327aModsFold
import Derived.WalkKit
import Derived.ProofKit
import Derived.Test.Qxb6605327aModsArgs
namespace Go.Proofs.Qxb6605327aMods.fnMergeKeysBatchesFoldInEitherOrder
open Go.ChangeShapes Go.WideShapes Go.ChangeAt Go.RowKit
set_option linter.unusedVariables false

theorem laidOut : laidOutB Trym.prog = true := by kernel_rfl

theorem own : ownKnob Trym.prog.godebug = none := by kernel_rfl

set_option maxRecDepth 100000 in
theorem lifted (os : Os) (started : os.Started) (H : Type) (enc : TypeId × Value → H) :
    ReturnsInHanded {} Trym.checked os 4 .any (Rows.fnMergeKeysBatchesFoldInEitherOrderSpec.pre6 enc Trym.prog Trym.f4 Rows.fnMergeKeysBatchesFoldInEitherOrderRow.domain false) (Rows.fnMergeKeysBatchesFoldInEitherOrderSpec.post enc Trym.prog Trym.f4 false true false false) := by
  refine returnsInHanded_of_change (C := Trym.checked) own started (by kernel_rfl) Trym.func4
    (ChangeSpec.witness6 (enc := enc) (C := Trym.checked) false ⟨#[], #[.slice none 0 0, .slice none 0 0, .slice none 0 0], []⟩ 8 (by kernel_rfl) (by kernel_rfl) (by kernel_rfl) (by kernel_rfl)) ?_
  intro W base args ds gs before hval0 hW hcnd _
  have hval : ∀ (j : Nat) t v, Trym.f4.params[j]? = some t → args[j]? = some v → Value.okWide Trym.prog W .any base t v := hval0
  have hW' := hW
  obtain ⟨p, q, hA0, hV, rfl, hfz, hnd⟩ := hW
  have hA : DataW.TrodAll enc Trym.prog W 0 (fun _ => true) true Trym.f4.params.toList args.toList ds p := hA0
  rw [Trym.params4] at hA hval
  obtain ⟨v0, vs0, d0, ds0, p0, q0, hargs, rfl, rfl, h0, r0⟩ := trodAll_cons hA
  obtain ⟨v1, vs1, d1, ds1, p1, q1, rfl, rfl, rfl, h1, r1⟩ := trodAll_cons r0
  obtain ⟨v2, vs2, d2, ds2, p2, q2, rfl, rfl, rfl, h2, r2⟩ := trodAll_cons r1
  obtain ⟨rfl, rfl, rfl⟩ := trodAll_nil r2
  obtain rfl : args = #[v0, v1, v2] := by cases args; simp_all
  obtain ⟨rfl, rfl⟩ := trodVars_none hV
  obtain ⟨a0, len0, cap0, rfl⟩ := okWide_slice Trym.underlying22 (hval 0 22 v0 rfl rfl)
  obtain ⟨a1, len1, cap1, rfl⟩ := okWide_slice Trym.underlying22 (hval 1 22 v1 rfl rfl)
  obtain ⟨a2, len2, cap2, rfl⟩ := okWide_slice Trym.underlying22 (hval 2 22 v2 rfl rfl)
  have k0 := h0
  have k1 := h1
  have k2 := h2
  have lt0 : ∀ x ∈ p0, x.block < W.heap.size := by obtain ⟨m, hm⟩ := k0; exact DataW.trod_lt m _ _ _ hm
  have lt1 : ∀ x ∈ p1, x.block < W.heap.size := by obtain ⟨m, hm⟩ := k1; exact DataW.trod_lt m _ _ _ hm
  have lt2 : ∀ x ∈ p2, x.block < W.heap.size := by obtain ⟨m, hm⟩ := k2; exact DataW.trod_lt m _ _ _ hm
  obtain ⟨f0, hf0⟩ := h0
  obtain ⟨f1, hf1⟩ := h1
  obtain ⟨f2, hf2⟩ := h2
  have fin : ∀ (e : Ending) (W' : World), e = .returned (.bool true) ∧ Below W.heap.size W W' → ∃ v, e = .returned v ∧ Rows.fnMergeKeysBatchesFoldInEitherOrderSpec.post enc Trym.prog Trym.f4 false true false false W #[.slice a0 len0 cap0, .slice a1 len1 cap1, .slice a2 len2 cap2] v W' := by
    rintro e W' ⟨rfl, bel⟩
    exact ⟨_, rfl, _, _, _, [], _, [], hW', trodAll_mk1 (shut_bool Trym.underlying4 _), (trodAll_mk3 (Below.trod laidOut (by kernel_rfl) (of_decide_eq_true (by kernel_rfl)) k0 bel lt0) (Below.trod laidOut (by kernel_rfl) (of_decide_eq_true (by kernel_rfl)) k1 bel lt1) (Below.trod laidOut (by kernel_rfl) (of_decide_eq_true (by kernel_rfl)) k2 bel lt2)), rfl, bel.frame _, fun h => by cases h⟩
  have fins : ∀ (e : Ending) (W' : World), e = .returned (.bool true) ∧ W = W' → ∃ v, e = .returned v ∧ Rows.fnMergeKeysBatchesFoldInEitherOrderSpec.post enc Trym.prog Trym.f4 false true false false W #[.slice a0 len0 cap0, .slice a1 len1 cap1, .slice a2 len2 cap2] v W' := by
    rintro e W' ⟨he, rfl⟩
    exact fin e W ⟨he, Below.refl _ _⟩
  obtain ⟨A, bA, oA, rfl, nA, hAA, kA⟩ := arg_of hf0
  obtain ⟨B, bB, oB, rfl, nB, hBB, kB⟩ := arg_of hf1
  obtain ⟨C, bC, oC, rfl, nC, hCC, kC⟩ := arg_of hf2
  by_cases hl : A.length ≤ 65536 ∧ B.length ≤ 65536 ∧ C.length ≤ 65536
  · exact (fold_walk a0 a1 a2 A B C bA oA cap0 bB oB cap1 bC oC cap2 W hAA hBB hCC nA nB nC kA kB kC hl.1 hl.2.1 hl.2.2).mono fin
  · exact (fold_big a0 a1 a2 A B C bA oA cap0 bB oB cap1 bC oC cap2 W hAA hBB hCC nA nB nC kA kB kC hl).mono fins

theorem over : Rows.fnMergeKeysBatchesFoldInEitherOrderRow.holds Trym.pinned (OpenSpec.ofChange Rows.fnMergeKeysBatchesFoldInEitherOrderSpec) :=
  OpenClaim.holds_of_wide 4 Trym.f4 rfl rfl rfl rfl rfl rfl rfl ⟨rfl, rfl, rfl, rfl, rfl⟩ rfl rfl rfl rfl rfl (by kernel_rfl) Trym.func4 (by kernel_rfl)
    (of_decide_eq_true (by kernel_rfl)) (by unfold Func.isWrapper; first | (rw [if_pos (by decide +kernel)]; kernel_rfl) | (rw [if_neg (by decide +kernel)]; exact ⟨rfl, rfl⟩))
    (fun os started H enc _ => lifted os started H enc)

/-- THE STATEMENT -/
theorem proved : Rows.FnMergeKeysBatchesFoldInEitherOrderSaid :=
  over
#print axioms proved
end Go.Proofs.Qxb6605327aMods.fnMergeKeysBatchesFoldInEitherOrder
