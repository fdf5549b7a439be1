/-
  Seat b6605327aM: FnMergeKeysIsRightBiasedSortedUnion (function 3): the walk.
-/
import Derived.Test.Qxb6605327aModsFacts
namespace Go.Proofs.Qxb6605327aMods
open Go.RowKit Plain
set_option linter.unusedVariables false

theorem union_large {a b : Nat} (h : ¬ (a ≤ 65536 ∧ b ≤ 65536)) : 65536 < (a : Int) ∨ (¬ 65536 < (a : Int) ∧ 65536 < (b : Int)) := by omega

theorem union_merge (ga na ca gb nb cb : Nat) (X Y M : List (ByteArray × Nat × Int)) (w : World) (hM : merge klt X Y = M) (ea : X.length = na) (eb : Y.length = nb) (hX : IRow w ga 0 X) (hY : IRow w gb 0 Y) (hca : na ≤ ca) (hcb : nb ≤ cb) (hma : ca ≤ maxLen) (hmb : cb ≤ maxLen) (hn : na + nb ≤ 200000) :
    Calls Trym.prog 12 #[.slice (some ⟨ga, 0, none⟩) na ca, .slice (some ⟨gb, 0, none⟩) nb cb] w fun e w' => ∃ g c, e = .returned (.slice (some ⟨g, 0, none⟩) M.length c) ∧ M.length ≤ c ∧ c ≤ maxLen ∧ IRow w' g 0 M ∧ Below w.heap.size w w' := by
  subst ea eb hM
  exact zzmerge_any ga ca gb cb X Y w hX hY hca hcb hma hmb hn

set_option maxHeartbeats 1600000 in
set_option maxRecDepth 1000000 in
theorem union_big (aA aB : Option Addr) (A B : List (ByteArray × Int)) (bA oA cA bB oB cB : Nat) (w : World) (hA : Arg w aA A bA oA) (hB : Arg w aB B bB oB) (nA : A.length ≤ maxLen) (nB : B.length ≤ maxLen) (kA : ∀ r, r < A.length → (ky A r).size ≤ maxLen) (kB : ∀ r, r < B.length → (ky B r).size ≤ maxLen) (hbig : ¬ (A.length ≤ 65536 ∧ B.length ≤ 65536)) :
    Calls Trym.prog 3 #[.slice aA A.length cA, .slice aB B.length cB] w fun e w' => e = .returned (.bool true) ∧ w = w' := by
  have HA : Hid (Arg w aA A bA oA) := hA
  have HB : Hid (Arg w aB B bB oB) := hB
  have KA : Hid (∀ r, r < A.length → (ky A r).size ≤ maxLen) := kA
  have KB : Hid (∀ r, r < B.length → (ky B r).size ≤ maxLen) := kB
  clear hA hB kA kB
  rcases union_large hbig with h1 | ⟨h1, h2⟩
  all_goals
    go_enter Trym.func3, Trym.ntmps3
    go_wp2_with (go_at_call 5; refine (zzBytes5_any aA A bA oA cA aB B bB oB cB _ HA.out nA KA.out HB.out nB KB.out).mono ?_; rintro e w' ⟨⟨r, rfl⟩, rfl⟩)
    all_goals
      go_ret
      exact ⟨rfl, rfl⟩

set_option maxHeartbeats 6400000 in
set_option maxRecDepth 1000000 in
theorem union_walk (aA aB : Option Addr) (A B : List (ByteArray × Int)) (bA oA cA bB oB cB : Nat) (w : World) (hA : Arg w aA A bA oA) (hB : Arg w aB B bB oB) (nA : A.length ≤ maxLen) (nB : B.length ≤ maxLen) (kA : ∀ r, r < A.length → (ky A r).size ≤ maxLen) (kB : ∀ r, r < B.length → (ky B r).size ≤ maxLen) (lA : A.length ≤ 65536) (lB : B.length ≤ 65536) :
    Calls Trym.prog 3 #[.slice aA A.length cA, .slice aB B.length cB] w fun e w' => e = .returned (.bool true) ∧ Below w.heap.size w w' := by
  have HA : Hid (Arg w aA A bA oA) := hA
  have HB : Hid (Arg w aB B bB oB) := hB
  have KA : Hid (∀ r, r < A.length → (ky A r).size ≤ maxLen) := kA
  have KB : Hid (∀ r, r < B.length → (ky B r).size ≤ maxLen) := kB
  clear hA hB kA kB
  go_enter Trym.func3, Trym.ntmps3
  go_wp2_with (go_at_call 5; refine (zzBytes5_any aA A bA oA cA aB B bB oB cB _ HA.out nA KA.out HB.out nB KB.out).mono ?_; rintro e w' ⟨⟨r, rfl⟩, rfl⟩)
  · go_ret
    exact ⟨rfl, Below.refl _ _⟩
  refine (mkBytes_any aA A bA oA cA _ HA.out lA KA.out).mono ?_
  rintro e w' ⟨mA, rfl, hmA, hmA', rfl⟩
  have MA : Hid (mA ≤ 1048576 → A.length * 24 ≤ 1048576 ∧ ∀ r, r < A.length → (ky A r).size ≤ 1048576) := hmA'
  clear hmA'
  go_wp2_with fail
  refine (mkBytes_any aB B bB oB cB _ HB.out lB KB.out).mono ?_
  rintro e w' ⟨mB, rfl, hmB, hmB', rfl⟩
  have MB : Hid (mB ≤ 1048576 → B.length * 24 ≤ 1048576 ∧ ∀ r, r < B.length → (ky B r).size ≤ 1048576) := hmB'
  clear hmB'
  by_cases hsum : (1048576 : Int) < (mA : Int) + (mB : Int)
  · go_wp2
    go_ret
    exact ⟨rfl, Below.refl _ _⟩
  have sA : A.length * 24 ≤ 1048576 := (MA.out (by omega)).1
  have sB : B.length * 24 ≤ 1048576 := (MB.out (by omega)).1
  clear MA MB
  go_wp2_with fail
  refine (mkSorted_any aA A bA oA cA _ HA.out lA).mono ?_
  rintro e v1 ⟨⟨s1, rfl, hs1⟩, hv1⟩
  cases s1 with
  | false =>
    go_wp2
    go_ret
    exact ⟨rfl, hv1⟩
  | true =>
  have IA : Hid (Inc klt (ky A) A.length) := hs1 rfl
  clear hs1
  go_wp2_with fail
  refine (mkSorted_any aB B bB oB cB _ (HB.out.below hv1) lB).mono ?_
  rintro e v2 ⟨⟨s2, rfl, hs2⟩, hv2⟩
  have cv2 : Below w.heap.size w v2 := hv1.trans (hv2.mono hv1.size)
  cases s2 with
  | false =>
    go_wp2
    go_ret
    exact ⟨rfl, cv2⟩
  | true =>
  have IB : Hid (Inc klt (ky B) B.length) := hs2 rfl
  clear hs2
  go_wp2_with fail
  have GA0 : Hid (Arg v2 aA A bA oA) := HA.out.below cv2
  refine (mkKeys_any aA A bA oA cA _ GA0.out lA).mono ?_
  rintro e x1 ⟨rfl, hkA, hbx1⟩
  have HKA : Hid (StrRow x1 v2.heap.size A.length (ky A)) := hkA
  have GA1 : Hid (Arg x1 aA A bA oA) := GA0.out.below hbx1
  clear hkA
  go_wp2_with fail
  refine (mkTags_any aA A bA oA cA _ GA1.out lA).mono ?_
  rintro e x2 ⟨rfl, htA, hbx2⟩
  have HTA : Hid (TagRow x2 x1.heap.size A.length (tg A)) := htA
  clear htA
  go_wp2_with fail
  refine (index_any v2.heap.size x1.heap.size A.length A.length A.length (ky A) (tg A) _ (HKA.out.below hbx2) HTA.out lA).mono ?_
  rintro e x3 ⟨XA, rfl, hLA, hbx3⟩
  have HLA : Hid (Idx x3 x2.heap.size A XA) := Idx.of_laid hLA
  have eqA : Hid (XA.length = A.length) := HLA.out.len
  clear hLA HKA HTA GA0 GA1
  have cumx3 : Below w.heap.size w x3 := ((cv2.trans (hbx1.mono (cv2).size)).trans (hbx2.mono ((cv2.trans (hbx1.mono (cv2).size))).size)).trans (hbx3.mono ((((cv2.trans (hbx1.mono (cv2).size)).trans (hbx2.mono ((cv2.trans (hbx1.mono (cv2).size))).size)))).size)
  have prex3 : Below v2.heap.size v2 x3 := (hbx1.trans (hbx2.mono hbx1.size)).trans (hbx3.mono (hbx1.trans (hbx2.mono hbx1.size)).size)
  go_wp2_with fail
  have GB0 : Hid (Arg x3 aB B bB oB) := HB.out.below cumx3
  refine (mkKeys_any aB B bB oB cB _ GB0.out lB).mono ?_
  rintro e y1 ⟨rfl, hkB, hby1⟩
  have HKB : Hid (StrRow y1 x3.heap.size B.length (ky B)) := hkB
  have GB1 : Hid (Arg y1 aB B bB oB) := GB0.out.below hby1
  clear hkB
  go_wp2_with fail
  refine (mkTags_any aB B bB oB cB _ GB1.out lB).mono ?_
  rintro e y2 ⟨rfl, htB, hby2⟩
  have HTB : Hid (TagRow y2 y1.heap.size B.length (tg B)) := htB
  clear htB
  go_wp2_with fail
  refine (index_any x3.heap.size y1.heap.size B.length B.length B.length (ky B) (tg B) _ (HKB.out.below hby2) HTB.out lB).mono ?_
  rintro e y3 ⟨XB, rfl, hLB, hby3⟩
  have HLB : Hid (Idx y3 y2.heap.size B XB) := Idx.of_laid hLB
  have eqB : Hid (XB.length = B.length) := HLB.out.len
  clear hLB HKB HTB GB0 GB1
  have cumy3 : Below w.heap.size w y3 := ((cumx3.trans (hby1.mono (cumx3).size)).trans (hby2.mono ((cumx3.trans (hby1.mono (cumx3).size))).size)).trans (hby3.mono ((((cumx3.trans (hby1.mono (cumx3).size)).trans (hby2.mono ((cumx3.trans (hby1.mono (cumx3).size))).size)))).size)
  have prey3 : Below x3.heap.size x3 y3 := (hby1.trans (hby2.mono hby1.size)).trans (hby3.mono (hby1.trans (hby2.mono hby1.size)).size)
  have RA : Hid (Idx y3 x2.heap.size A XA) := HLA.out.below prey3
  have RB : Hid (Idx y3 y2.heap.size B XB) := HLB.out
  clear HLA HLB
  have SA : Hid (Srt klt XA) := RA.out.srt IA.out
  have SB : Hid (Srt klt XB) := RB.out.srt IB.out
  obtain ⟨L, hL⟩ : ∃ P, merge klt XA XB = P := ⟨_, rfl⟩
  have nL : L.length ≤ A.length + B.length := by rw [← hL, ← eqA.out, ← eqB.out]; exact merge_length_le _ XA XB (Nat.le_refl _)
  have EL : Hid (merge klt XA XB = L) := hL
  clear hL
  go_wp2_with fail
  refine (union_merge x2.heap.size A.length A.length y2.heap.size B.length B.length XA XB L _ EL.out eqA.out eqB.out RA.out.row RB.out.row (Nat.le_refl _) (Nat.le_refl _) (by unfold maxLen; omega) (by unfold maxLen; omega) (by omega)).mono ?_
  rintro e d1 ⟨g1, c1, rfl, r11, r12, r13, hd1⟩
  have W1 : Hid (IRow d1 g1 0 L) := r13
  clear r13
  have HI1 : Hid (∀ r, r < L.length → Hist d1 0 (ep L r) (et L r)) := by
    rw [← EL.out]
    exact hist_merge (fun r hr => (RA.out.hist r hr).below hd1) (fun r hr => (RB.out.hist r hr).below hd1)
  go_wp2_with fail
  refine (read_any g1 c1 0 L _ W1.out HI1.out (by omega)).mono ?_
  rintro e d2 ⟨k1, t1, rfl, rk1, rt1, hd2⟩
  have K1 : Hid (StrRow d2 k1 L.length (ek L)) := rk1
  have T1 : Hid (TagRow d2 t1 L.length (et L)) := rt1
  clear rk1 rt1 W1 HI1
  have cd2 : Below y3.heap.size y3 d2 := hd1.trans (hd2.mono hd1.size)
  have cw2 : Below w.heap.size w d2 := cumy3.trans (cd2.mono cumy3.size)
  have SL : Hid (Srt klt L) := by show Srt klt L; rw [← EL.out]; exact merge_srt kord SA.out SB.out
  have IL : Hid (Inc klt (ek L) L.length) := inc_of_srt SL.out
  have FA : Hid (∀ r, r < A.length → ∃ q, q < L.length ∧ ek L q = ky A r) := fun r hr => by
    obtain ⟨q, hq, e1⟩ := merge_has_left SA.out SB.out (r := r) (by rw [eqA.out]; exact hr)
    rw [EL.out] at hq e1
    exact ⟨q, hq, e1.trans (RA.out.same r (by rw [eqA.out]; exact hr)).1⟩
  have FB : Hid (∀ r, r < B.length → ∃ q, q < L.length ∧ ek L q = ky B r) := fun r hr => by
    obtain ⟨q, hq, e1, _⟩ := merge_has_right SA.out SB.out (r := r) (by rw [eqB.out]; exact hr)
    rw [EL.out] at hq e1
    exact ⟨q, hq, e1.trans (RB.out.same r (by rw [eqB.out]; exact hr)).1⟩
  have FL : Hid (∀ r, r < L.length → (∃ q, q < B.length ∧ ky B q = ek L r ∧ tg B q = et L r) ∨ ((∀ q, q < B.length → ¬ ky B q = ek L r) ∧ ∃ q, q < A.length ∧ ky A q = ek L r ∧ tg A q = et L r)) := fun r hr => by
    have := merge_from SA.out SB.out (r := r) (by rw [EL.out]; exact hr)
    rw [EL.out] at this
    rcases this with ⟨q, hq, e1, e2⟩ | ⟨hno, q, hq, e1, e2⟩
    · have hs := RB.out.same q hq
      exact .inl ⟨q, by rw [← eqB.out]; exact hq, hs.1.symm.trans e1, hs.2.symm.trans e2⟩
    · have hs := RA.out.same q hq
      refine .inr ⟨fun q' hq' e => ?_, q, by rw [← eqA.out]; exact hq, hs.1.symm.trans e1, hs.2.symm.trans e2⟩
      have hq2 : q' < XB.length := by rw [eqB.out]; exact hq'
      exact hno q' hq2 ((RB.out.same q' hq2).1.trans e)
  clear RA RB SA SB SL EL
  go_wp2_with fail
  refine (mkSortedKeys_any k1 L.length L.length (ek L) _ K1.out (by omega) IL.out).mono ?_
  rintro e d3 ⟨rfl, hd3⟩
  have K3 : Hid (StrRow d3 k1 L.length (ek L)) := K1.out.below hd3
  have T3 : Hid (TagRow d3 t1 L.length (et L)) := T1.out.below hd3
  have cw3 : Below w.heap.size w d3 := cw2.trans (hd3.mono cw2.size)
  have A3 : Hid (Arg d3 aA A bA oA) := HA.out.below cw3
  have B3 : Hid (Arg d3 aB B bB oB) := HB.out.below cw3
  clear K1 T1
  go_wp2
  go_loopw [9] (fun i wr => ∃ k q : Nat, k ≤ L.length ∧ i = .int .i64 k ∧ wr = d3.drewN q) (fun i _ => L.length - (intOf i).toNat)
  case atStart => exact ⟨0, 0, Nat.zero_le _, rfl, rfl⟩
  case round =>
    obtain ⟨k, q, hk, rfl, rfl⟩ := hrel
    by_cases hlt : k < L.length
    · have e1 := K3.out.cell k hlt
      have e2 := T3.out.cell k hlt
      have i1 : (0 : Int) ≤ (k : Int) := by omega
      have i2 : (k : Int) < (L.length : Int) := by omega
      rcases FL.out k hlt with ⟨p, hp, hpk, hpt⟩ | ⟨hno, p, hp, hpk, hpt⟩
      · have hix := B3.out.index cB p hp
        have f2 := B3.out.tag p hp
        rw [hpt] at f2
        have HPK : Hid (ky B p = ek L k) := hpk
        have i3 : (0 : Int) ≤ (p : Int) := by omega
        have i4 : (p : Int) < (B.length : Int) := by omega
        clear hpk hpt
        go_wp2_with (go_at_call 14; refine (mkFind_yes aB B bB oB cB (ek L k) _ (B3.out.below (below_drewN q)) (by omega) IB.out p hp HPK.out).mono ?_; rintro e w' ⟨rfl, rfl⟩)
        go_quiet (fail)
        go_wp2
        go_roundw
        case rel => exact ⟨k + 1, q + nq, by omega, by go_num, by simp⟩
        case measure => simp [intOf]; omega
      · have hix := A3.out.index cA p hp
        have f2 := A3.out.tag p hp
        rw [hpt] at f2
        have HPK : Hid (ky A p = ek L k) := hpk
        have HNO : Hid (∀ q, q < B.length → ¬ ky B q = ek L k) := hno
        have i3 : (0 : Int) ≤ (p : Int) := by omega
        have i4 : (p : Int) < (A.length : Int) := by omega
        clear hpk hpt hno
        go_wp2_with fail
        refine (mkFind_no aB B bB oB cB (ek L k) _ (B3.out.below (below_drewN q)) (by omega) IB.out HNO.out).mono ?_
        rintro e w' ⟨rfl, rfl⟩
        go_wp2_with fail
        refine (mkFind_yes aA A bA oA cA (ek L k) _ (A3.out.below (below_drewN q)) (by omega) IA.out p hp HPK.out).mono ?_
        rintro e w' ⟨rfl, rfl⟩
        go_wp2
        go_quiet (fail)
        go_wp2
        go_roundw
        case rel => exact ⟨k + 1, q + nq, by omega, by go_num, by simp⟩
        case measure => simp [intOf]; omega
    · have K8 : Hid (StrRow (d3.drewN q) k1 L.length (ek L)) := K3.out.below (below_drewN q)
      have A8 : Hid (Arg (d3.drewN q) aA A bA oA) := A3.out.below (below_drewN q)
      have B8 : Hid (Arg (d3.drewN q) aB B bB oB) := B3.out.below (below_drewN q)
      have cw8 : Below w.heap.size w (d3.drewN q) := below_draws cw3 q
      clear K3 T3 A3 B3 FL
      go_wp2
      go_loop [14] (fun i => ∃ k : Nat, k ≤ A.length ∧ i = .int .i64 k) (fun i => A.length - (intOf i).toNat)
      case atStart => exact ⟨0, Nat.zero_le _, rfl⟩
      case round =>
        obtain ⟨m3, hm3, rfl⟩ := hrel
        by_cases hl3 : m3 < A.length
        · have hix := A8.out.index cA m3 hl3
          have f1 := A8.out.key m3 hl3
          obtain ⟨p, hp, hpk⟩ := FA.out m3 hl3
          have HPK : Hid (ek L p = ky A m3) := hpk
          clear hpk
          go_wp2_with (go_at_call 15; refine (mkFindKey_yes k1 L.length L.length (ek L) (ky A m3) _ K8.out (by omega) IL.out p hp HPK.out).mono ?_; rintro e w' ⟨rfl, rfl⟩)
          go_round
          case rel => exact ⟨m3 + 1, by omega, by go_num⟩
          case measure => simp [intOf]; omega
        · go_wp2
          go_loop [17] (fun i => ∃ k : Nat, k ≤ B.length ∧ i = .int .i64 k) (fun i => B.length - (intOf i).toNat)
          case atStart => exact ⟨0, Nat.zero_le _, rfl⟩
          case round =>
            obtain ⟨m4, hm4, rfl⟩ := hrel
            by_cases hl4 : m4 < B.length
            · have hix := B8.out.index cB m4 hl4
              have f1 := B8.out.key m4 hl4
              obtain ⟨p, hp, hpk⟩ := FB.out m4 hl4
              have HPK : Hid (ek L p = ky B m4) := hpk
              clear hpk
              go_wp2_with (go_at_call 15; refine (mkFindKey_yes k1 L.length L.length (ek L) (ky B m4) _ K8.out (by omega) IL.out p hp HPK.out).mono ?_; rintro e w' ⟨rfl, rfl⟩)
              go_round
              case rel => exact ⟨m4 + 1, by omega, by go_num⟩
              case measure => simp [intOf]; omega
            · go_wp2
              go_ret
              exact ⟨rfl, cw8⟩

end Go.Proofs.Qxb6605327aMods
