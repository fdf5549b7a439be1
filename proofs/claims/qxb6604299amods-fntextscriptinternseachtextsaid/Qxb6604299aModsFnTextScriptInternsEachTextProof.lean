/-
  Seat b6604299aM: the given statement 'Rows.FnTextScriptInternsEachTextSaid', out of the walk in Qxb6604299aModsLaw.
-/
import Derived.Test.Qxb6604299aModsRows
import Derived.Test.Qxb6604299aModsLaw
import Derived.WalkKit
import Derived.ProofKit
import Derived.Deep.Matrix
import Derived.Deep.Grids
namespace Go.Proofs.Qxb6604299aMods.fnTextScriptInternsEachText
open Go.ChangeShapes Go.WideShapes Go.ChangeAt Go.RowKit
set_option linter.unusedVariables false

theorem laidOut : laidOutB Trym.prog = true := by kernel_rfl

/-- The bytes that a row of numbers stands for. -/
def bytesOf (zs : List Int) (n : Nat) : List UInt8 := (zs.take n).map fun z => UInt8.ofNat z.toNat

theorem bytesOf_length {zs : List Int} {n : Nat} (h : n ≤ zs.length) : (bytesOf zs n).length = n := by simp [bytesOf]; omega

theorem plain_addr {w : World} {a : Addr} {v : Value} (h : w.cell? (a.add 0) = some v) : ∃ b off, a = ⟨b, off, none⟩ := by
  obtain ⟨b, off, spot⟩ := a
  have hs : spot = none := by simpa [Addr.add] using World.cell?_spot h
  subst hs
  exact ⟨b, off, rfl⟩

/-- What a [][]byte that came in is to the walk. -/
theorem rows_of {W : World} {a : Addr} {len cap : Nat} {A : Nat → Option Addr} {L C : Nat → Nat} {Z : Nat → List Int} (hl : len ≤ cap)
    (h : ∀ r, r < cap → W.cell? (a.add r) = some (.slice (A r) (L r) (C r)) ∧ L r ≤ C r ∧ C r ≤ maxLen ∧ (Z r).length = C r ∧ (∀ n ∈ Z r, (Lit.int .u8 n).wf = true) ∧ (A r = none → C r = 0) ∧
        ∀ a', A r = some a' → 0 ≤ a'.block ∧ ∀ c, c < C r → W.cell? (a'.add c) = some (.int .u8 ((Z r).getD c 0))) (h0 : 0 < len) :
    ∃ b off, a = ⟨b, off, none⟩ ∧ Rws W 0 b off len A C (fun r => bytesOf (Z r) (L r)) ∧ ∀ r, r < len → (bytesOf (Z r) (L r)).length ≤ maxLen := by
  obtain ⟨b, off, rfl⟩ := plain_addr (h 0 (by omega)).1
  have hlen : ∀ r, r < len → (bytesOf (Z r) (L r)).length = L r := fun r hr => by
    obtain ⟨_, h2, _, h4, _⟩ := h r (by omega)
    exact bytesOf_length (by omega)
  refine ⟨b, off, rfl, ⟨fun _ => World.block_lt_of_cell? W _ (h 0 (by omega)).1, fun r hr => ?_, fun r hr => ?_⟩, fun r hr => ?_⟩
  · have := (h r (by omega)).1
    rw [Addr.add_lit] at this
    rw [hlen r hr]; exact this
  · obtain ⟨_, h2, _, h4, h5, h6, h7⟩ := h r (by omega)
    have hc : ∀ a', A r = some a' → ∀ j (hj : j < (bytesOf (Z r) (L r)).length), W.cell? (a'.add j) = some (.int .u8 ((bytesOf (Z r) (L r))[j].toNat : Int)) := by
      intro a' ha' j hj
      have hj' : j < L r := by rw [hlen r hr] at hj; exact hj
      rw [(h7 a' ha').2 j (by omega)]
      have hw := h5 ((Z r)[j]'(by omega)) (List.getElem_mem _)
      have hbd : 0 ≤ (Z r)[j]'(by omega) ∧ (Z r)[j]'(by omega) ≤ 255 := by
        have h8 : IntKind.u8.min ≤ (Z r)[j]'(by omega) ∧ (Z r)[j]'(by omega) ≤ IntKind.u8.max := by simpa [Lit.wf] using hw
        exact h8
      have e1 : (Z r).getD j 0 = (Z r)[j]'(by omega) := by simp [List.getD, show j < (Z r).length by omega]
      rw [e1]
      congr 2
      simp only [bytesOf, List.getElem_map, List.getElem_take]
      simp
      omega
    refine ⟨rfl, fun hn => ?_, fun a' ha' hne => ⟨Nat.zero_le _, ?_⟩, hc⟩
    · have := h6 hn
      exact List.eq_nil_of_length_eq_zero (by rw [hlen r hr]; omega)
    · have hp : 0 < (bytesOf (Z r) (L r)).length := List.length_pos_iff.2 hne
      have := World.block_lt_of_cell? W _ (hc a' ha' 0 hp)
      rw [add_block] at this
      exact this
  · obtain ⟨_, h2, h3, _⟩ := h r (by omega)
    rw [hlen r hr]; omega

theorem own : ownKnob Trym.prog.godebug = none := by kernel_rfl

set_option maxRecDepth 100000 in
theorem lifted (os : Os) (started : os.Started) (H : Type) (enc : TypeId × Value → H) :
    ReturnsInHanded {} Trym.checked os 3 .any (Rows.fnTextScriptInternsEachTextSpec.pre6 enc Trym.prog Trym.f3 Rows.fnTextScriptInternsEachTextRow.domain false) (Rows.fnTextScriptInternsEachTextSpec.post enc Trym.prog Trym.f3 false true false false) := by
  refine returnsInHanded_of_change (C := Trym.checked) own started (by kernel_rfl) Trym.func3
    (ChangeSpec.witness6 (enc := enc) (C := Trym.checked) false ⟨#[], #[.slice none 0 0, .slice none 0 0], []⟩ 8 (by kernel_rfl) (by kernel_rfl) (by kernel_rfl) (by kernel_rfl)) ?_
  intro W base args ds gs before hval0 hW hcnd _
  have hval : ∀ (j : Nat) t v, Trym.f3.params[j]? = some t → args[j]? = some v → Value.okWide Trym.prog W .any base t v := hval0
  have hW' := hW
  obtain ⟨p, q, hA0, hV, rfl, hfz, hnd⟩ := hW
  have hA : DataW.TrodAll enc Trym.prog W 0 (fun _ => true) true Trym.f3.params.toList args.toList ds p := hA0
  rw [Trym.params3] at hA hval
  obtain ⟨v0, vs0, d0, ds0, p0, q0, hargs, rfl, rfl, h0, r0⟩ := trodAll_cons hA
  obtain ⟨v1, vs1, d1, ds1, p1, q1, rfl, rfl, rfl, h1, r1⟩ := trodAll_cons r0
  obtain ⟨rfl, rfl, rfl⟩ := trodAll_nil r1
  obtain rfl : args = #[v0, v1] := by cases args; simp_all
  obtain ⟨rfl, rfl⟩ := trodVars_none hV
  obtain ⟨a0, len0, cap0, rfl⟩ := okWide_slice Trym.underlying22 (hval 0 22 v0 rfl rfl)
  obtain ⟨a1, len1, cap1, rfl⟩ := okWide_slice Trym.underlying23 (hval 1 23 v1 rfl rfl)
  have k0 := h0
  have k1 := h1
  have lt0 : ∀ x ∈ p0, x.block < W.heap.size := by obtain ⟨m, hm⟩ := k0; exact DataW.trod_lt m _ _ _ hm
  have lt1 : ∀ x ∈ p1, x.block < W.heap.size := by obtain ⟨m, hm⟩ := k1; exact DataW.trod_lt m _ _ _ hm
  obtain ⟨f0, hf0⟩ := h0
  obtain ⟨f1, hf1⟩ := h1
  have fin : ∀ (e : Ending) (W' : World), e = .returned (.bool true) ∧ Below W.heap.size W W' → ∃ v, e = .returned v ∧ Rows.fnTextScriptInternsEachTextSpec.post enc Trym.prog Trym.f3 false true false false W #[.slice a0 len0 cap0, .slice a1 len1 cap1] v W' := by
    rintro e W' ⟨rfl, bel⟩
    exact ⟨_, rfl, _, _, _, [], _, [], hW', trodAll_mk1 (shut_bool Trym.underlying4 _), (trodAll_mk2 (Below.trod laidOut (by kernel_rfl) (of_decide_eq_true (by kernel_rfl)) k0 bel lt0) (Below.trod laidOut (by kernel_rfl) (of_decide_eq_true (by kernel_rfl)) k1 bel lt1)), rfl, bel.frame _, fun h => by cases h⟩
  have fins : ∀ (e : Ending) (W' : World), e = .returned (.bool true) ∧ W = W' → ∃ v, e = .returned v ∧ Rows.fnTextScriptInternsEachTextSpec.post enc Trym.prog Trym.f3 false true false false W #[.slice a0 len0 cap0, .slice a1 len1 cap1] v W' := by
    rintro e W' ⟨he, rfl⟩
    exact fin e W ⟨he, Below.refl _ _⟩
  -- the second argument, in two forms
  have hF : (len1 = 0) ∨ (0 < len1 ∧ len1 ≤ maxLen ∧ ∃ (b off : Nat) (F : Nat → Bool), a1 = some ⟨b, off, none⟩ ∧ b < W.heap.size ∧ ∀ r, r < len1 → W.cell? ⟨b, off + r, none⟩ = some (.bool (F r))) := by
    rcases Deep.open_bools Trym.underlying23 Trym.underlying4 (by kernel_rfl) hf1 with ⟨hcs, _⟩ | ⟨x, l, c, F, hcs, _, hl, hm, _, hcell⟩
    · simp [Value.cells] at hcs
      exact .inl hcs.2.1
    · simp [Value.cells] at hcs
      obtain ⟨rfl, rfl, rfl⟩ := hcs
      by_cases hz : len1 = 0
      · exact .inl hz
      · obtain ⟨b, off, rfl⟩ := plain_addr (hcell 0 (by omega))
        refine .inr ⟨by omega, by omega, b, off, F, rfl, World.block_lt_of_cell? W _ (hcell 0 (by omega)), fun r hr => ?_⟩
        have := hcell r (by omega)
        rw [Addr.add_lit] at this
        exact this
  have hm1 : len1 ≤ maxLen := by
    rcases hF with h | ⟨_, h, _⟩
    · rw [h]; exact Nat.zero_le _
    · exact h
  rcases Deep.open_int_rows Trym.underlying22 Trym.underlying25 Trym.underlying5 (by kernel_rfl) (by kernel_rfl) hf0 with ⟨hcs, _⟩ | ⟨x, l, c, A, L, C, Z, hcs, _, hl, hm, _, hrows⟩
  · simp [Value.cells] at hcs
    obtain ⟨rfl, rfl, rfl⟩ := hcs
    by_cases hb : len1 ≤ 4096
    · rcases hF with rfl | ⟨h1, _, b, off, F, rfl, hblt, hcell⟩
      · exact (law_walk_nn none 0 a1 cap1 W).mono fin
      · exact (law_walk_ns none 0 b off len1 cap1 F W h1 hblt hcell hb).mono fin
    · exact (law_big_none none a1 0 len1 cap1 W hm1 (by omega)).mono fins
  · simp [Value.cells] at hcs
    obtain ⟨rfl, rfl, rfl⟩ := hcs
    by_cases hz : len0 = 0
    · subst hz
      by_cases hb : len1 ≤ 4096
      · rcases hF with rfl | ⟨h1, _, b, off, F, rfl, hblt, hcell⟩
        · exact (law_walk_nn (some x) cap0 a1 cap1 W).mono fin
        · exact (law_walk_ns (some x) cap0 b off len1 cap1 F W h1 hblt hcell hb).mono fin
      · exact (law_big_none (some x) a1 cap0 len1 cap1 W hm1 (by omega)).mono fins
    · obtain ⟨b, off, rfl, hR, hT⟩ := rows_of hl hrows (by omega)
      by_cases hb : len0 ≤ 4096 ∧ len1 ≤ 4096
      · rcases hF with rfl | ⟨h1, _, bF, oF, F, rfl, hblt, hcell⟩
        · exact (law_walk_sn 0 b off len0 cap0 a1 cap1 A C _ W hR (by omega) hb.1 hT).mono fin
        · exact (law_walk_ss 0 b off len0 cap0 bF oF len1 cap1 F A C _ W hR (by omega) hb.1 h1 hblt hcell hb.2 hT).mono fin
      · exact (law_big_some 0 b off len0 cap0 a1 len1 cap1 A C _ W hR (by omega) hm1 hT hb).mono fins

theorem over : Rows.fnTextScriptInternsEachTextRow.holds Trym.pinned (OpenSpec.ofChange Rows.fnTextScriptInternsEachTextSpec) :=
  OpenClaim.holds_of_wide 3 Trym.f3 rfl rfl rfl rfl rfl rfl rfl ⟨rfl, rfl, rfl, rfl, rfl⟩ rfl rfl rfl rfl rfl (by kernel_rfl) Trym.func3 (by kernel_rfl)
    (of_decide_eq_true (by kernel_rfl)) (by unfold Func.isWrapper; first | (rw [if_pos (by decide +kernel)]; kernel_rfl) | (rw [if_neg (by decide +kernel)]; exact ⟨rfl, rfl⟩))
    (fun os started H enc _ => lifted os started H enc)

/-- THE STATEMENT -/
theorem proved : Rows.FnTextScriptInternsEachTextSaid :=
  over
#print axioms proved
end Go.Proofs.Qxb6604299aMods.fnTextScriptInternsEachText
