/-
  Seat b6605327aM: FnMergeKeysBatchesFoldInEitherOrder (function 4): the walk.
-/
import Derived.Test.Qxb6605327aModsFacts
namespace Go.Proofs.Qxb6605327aMods
open Go.RowKit Plain
set_option linter.unusedVariables false

theorem fold_large {a b c : Nat} (h : ¬ (a ≤ 65536 ∧ b ≤ 65536 ∧ c ≤ 65536)) : 65536 < (a : Int) ∨ (¬ 65536 < (a : Int) ∧ 65536 < (b : Int)) ∨ (¬ 65536 < (a : Int) ∧ ¬ 65536 < (b : Int) ∧ 65536 < (c : Int)) := by omega

set_option maxHeartbeats 1600000 in
set_option maxRecDepth 1000000 in
theorem fold_big (aA aB aC : Option Addr) (A B C : List (ByteArray × Int)) (bA oA cA bB oB cB bC oC cC : Nat) (w : World) (hA : Arg w aA A bA oA) (hB : Arg w aB B bB oB) (hC : Arg w aC C bC oC) (nA : A.length ≤ maxLen) (nB : B.length ≤ maxLen) (nC : C.length ≤ maxLen) (kA : ∀ r, r < A.length → (ky A r).size ≤ maxLen) (kB : ∀ r, r < B.length → (ky B r).size ≤ maxLen) (kC : ∀ r, r < C.length → (ky C r).size ≤ maxLen) (hbig : ¬ (A.length ≤ 65536 ∧ B.length ≤ 65536 ∧ C.length ≤ 65536)) :
    Calls Trym.prog 4 #[.slice aA A.length cA, .slice aB B.length cB, .slice aC C.length cC] w fun e w' => e = .returned (.bool true) ∧ w = w' := by
  have HA : Hid (Arg w aA A bA oA) := hA
  have HB : Hid (Arg w aB B bB oB) := hB
  have HC : Hid (Arg w aC C bC oC) := hC
  have KA : Hid (∀ r, r < A.length → (ky A r).size ≤ maxLen) := kA
  have KB : Hid (∀ r, r < B.length → (ky B r).size ≤ maxLen) := kB
  have KC : Hid (∀ r, r < C.length → (ky C r).size ≤ maxLen) := kC
  clear hA hB hC kA kB kC
  rcases fold_large hbig with h1 | ⟨h1, h2⟩ | ⟨h1, h2, h3⟩
  all_goals
    go_enter Trym.func4, Trym.ntmps4
    go_wp2_with (go_at_call 16; refine (zzBytes16_any aA A bA oA cA aB B bB oB cB aC C bC oC cC _ HA.out nA KA.out HB.out nB KB.out HC.out nC KC.out).mono ?_; rintro e w' ⟨⟨r, rfl⟩, rfl⟩)
    all_goals
      go_ret
      exact ⟨rfl, rfl⟩

theorem zzmerge_to (ga na ca gb nb cb : Nat) (X Y M : List (ByteArray × Nat × Int)) (w : World) (hM : merge klt X Y = M) (ea : X.length = na) (eb : Y.length = nb) (hX : IRow w ga 0 X) (hY : IRow w gb 0 Y) (hca : na ≤ ca) (hcb : nb ≤ cb) (hma : ca ≤ maxLen) (hmb : cb ≤ maxLen) (hn : na + nb ≤ 200000) :
    Calls Trym.prog 12 #[.slice (some ⟨ga, 0, none⟩) na ca, .slice (some ⟨gb, 0, none⟩) nb cb] w fun e w' => ∃ g c, e = .returned (.slice (some ⟨g, 0, none⟩) M.length c) ∧ M.length ≤ c ∧ c ≤ maxLen ∧ IRow w' g 0 M ∧ Below w.heap.size w w' := by
  subst ea eb hM
  exact zzmerge_any ga ca gb cb X Y w hX hY hca hcb hma hmb hn

set_option maxHeartbeats 6400000 in
set_option maxRecDepth 1000000 in
theorem fold_walk (aA aB aC : Option Addr) (A B C : List (ByteArray × Int)) (bA oA cA bB oB cB bC oC cC : Nat) (w : World) (hA : Arg w aA A bA oA) (hB : Arg w aB B bB oB) (hC : Arg w aC C bC oC) (nA : A.length ≤ maxLen) (nB : B.length ≤ maxLen) (nC : C.length ≤ maxLen) (kA : ∀ r, r < A.length → (ky A r).size ≤ maxLen) (kB : ∀ r, r < B.length → (ky B r).size ≤ maxLen) (kC : ∀ r, r < C.length → (ky C r).size ≤ maxLen) (lA : A.length ≤ 65536) (lB : B.length ≤ 65536) (lC : C.length ≤ 65536) :
    Calls Trym.prog 4 #[.slice aA A.length cA, .slice aB B.length cB, .slice aC C.length cC] w fun e w' => e = .returned (.bool true) ∧ Below w.heap.size w w' := by
  have HA : Hid (Arg w aA A bA oA) := hA
  have HB : Hid (Arg w aB B bB oB) := hB
  have HC : Hid (Arg w aC C bC oC) := hC
  have KA : Hid (∀ r, r < A.length → (ky A r).size ≤ maxLen) := kA
  have KB : Hid (∀ r, r < B.length → (ky B r).size ≤ maxLen) := kB
  have KC : Hid (∀ r, r < C.length → (ky C r).size ≤ maxLen) := kC
  clear hA hB hC kA kB kC
  go_enter Trym.func4, Trym.ntmps4
  go_wp2_with (go_at_call 16; refine (zzBytes16_any aA A bA oA cA aB B bB oB cB aC C bC oC cC _ HA.out nA KA.out HB.out nB KB.out HC.out nC KC.out).mono ?_; rintro e w' ⟨⟨r, rfl⟩, rfl⟩)
  · go_ret
    exact ⟨rfl, Below.refl _ _⟩
  refine (mkBytes_any aA A bA oA cA _ HA.out lA KA.out).mono ?_
  rintro e w' ⟨mA, rfl, hmA, hmA', rfl⟩
  have MA : Hid (mA ≤ 1048576 → A.length * 24 ≤ 1048576 ∧ ∀ r, r < A.length → (ky A r).size ≤ 1048576) := hmA'
  clear hmA'
  go_wp2_with fail
  refine (mkBytes_any aB B bB oB cB _ HB.out lB KB.out).mono ?_
  rintro e w' ⟨mB, rfl, hmB, hmB', rfl⟩
  have MB : Hid (mB ≤ 1048576 → B.length * 24 ≤ 1048576 ∧ ∀ r, r < B.length → (ky B r).size ≤ 1048576) := hmB'
  clear hmB'
  go_wp2_with fail
  refine (mkBytes_any aC C bC oC cC _ HC.out lC KC.out).mono ?_
  rintro e w' ⟨mC, rfl, hmC, hmC', rfl⟩
  have MC : Hid (mC ≤ 1048576 → C.length * 24 ≤ 1048576 ∧ ∀ r, r < C.length → (ky C r).size ≤ 1048576) := hmC'
  clear hmC'
  by_cases hsum : (1048576 : Int) < (mA : Int) + (mB : Int) + (mC : Int)
  · go_wp2
    go_ret
    exact ⟨rfl, Below.refl _ _⟩
  have sA : A.length * 24 ≤ 1048576 := (MA.out (by omega)).1
  have sB : B.length * 24 ≤ 1048576 := (MB.out (by omega)).1
  have sC : C.length * 24 ≤ 1048576 := (MC.out (by omega)).1
  clear MA MB MC
  go_wp2_with fail
  refine (mkSorted_any aA A bA oA cA _ HA.out lA).mono ?_
  rintro e v1 ⟨⟨s1, rfl, hs1⟩, hv1⟩
  cases s1 with
  | false =>
    go_wp2
    go_ret
    exact ⟨rfl, hv1⟩
  | true =>
  have IA : Hid (Inc klt (ky A) A.length) := hs1 rfl
  clear hs1
  go_wp2_with fail
  refine (mkSorted_any aB B bB oB cB _ (HB.out.below hv1) lB).mono ?_
  rintro e v2 ⟨⟨s2, rfl, hs2⟩, hv2⟩
  have cv2 : Below w.heap.size w v2 := hv1.trans (hv2.mono hv1.size)
  cases s2 with
  | false =>
    go_wp2
    go_ret
    exact ⟨rfl, cv2⟩
  | true =>
  have IB : Hid (Inc klt (ky B) B.length) := hs2 rfl
  clear hs2
  go_wp2_with fail
  refine (mkSorted_any aC C bC oC cC _ (HC.out.below cv2) lC).mono ?_
  rintro e v3 ⟨⟨s3, rfl, hs3⟩, hv3⟩
  have cv3 : Below w.heap.size w v3 := cv2.trans (hv3.mono cv2.size)
  cases s3 with
  | false =>
    go_wp2
    go_ret
    exact ⟨rfl, cv3⟩
  | true =>
  have IC : Hid (Inc klt (ky C) C.length) := hs3 rfl
  clear hs3
  go_wp2_with fail
  have GA0 : Hid (Arg v3 aA A bA oA) := HA.out.below cv3
  refine (mkKeys_any aA A bA oA cA _ GA0.out lA).mono ?_
  rintro e x1 ⟨rfl, hkA, hbx1⟩
  have HKA : Hid (StrRow x1 v3.heap.size A.length (ky A)) := hkA
  have GA1 : Hid (Arg x1 aA A bA oA) := GA0.out.below hbx1
  clear hkA
  go_wp2_with fail
  refine (mkTags_any aA A bA oA cA _ GA1.out lA).mono ?_
  rintro e x2 ⟨rfl, htA, hbx2⟩
  have HTA : Hid (TagRow x2 x1.heap.size A.length (tg A)) := htA
  clear htA
  go_wp2_with fail
  refine (index_any v3.heap.size x1.heap.size A.length A.length A.length (ky A) (tg A) _ (HKA.out.below hbx2) HTA.out lA).mono ?_
  rintro e x3 ⟨XA, rfl, hLA, hbx3⟩
  have HLA : Hid (Idx x3 x2.heap.size A XA) := Idx.of_laid hLA
  have eqA : Hid (XA.length = A.length) := HLA.out.len
  clear hLA HKA HTA GA0 GA1
  have cumx3 : Below w.heap.size w x3 := ((cv3.trans (hbx1.mono (cv3).size)).trans (hbx2.mono ((cv3.trans (hbx1.mono (cv3).size))).size)).trans (hbx3.mono ((((cv3.trans (hbx1.mono (cv3).size)).trans (hbx2.mono ((cv3.trans (hbx1.mono (cv3).size))).size)))).size)
  have prex3 : Below v3.heap.size v3 x3 := (hbx1.trans (hbx2.mono hbx1.size)).trans (hbx3.mono (hbx1.trans (hbx2.mono hbx1.size)).size)
  go_wp2_with fail
  have GB0 : Hid (Arg x3 aB B bB oB) := HB.out.below cumx3
  refine (mkKeys_any aB B bB oB cB _ GB0.out lB).mono ?_
  rintro e y1 ⟨rfl, hkB, hby1⟩
  have HKB : Hid (StrRow y1 x3.heap.size B.length (ky B)) := hkB
  have GB1 : Hid (Arg y1 aB B bB oB) := GB0.out.below hby1
  clear hkB
  go_wp2_with fail
  refine (mkTags_any aB B bB oB cB _ GB1.out lB).mono ?_
  rintro e y2 ⟨rfl, htB, hby2⟩
  have HTB : Hid (TagRow y2 y1.heap.size B.length (tg B)) := htB
  clear htB
  go_wp2_with fail
  refine (index_any x3.heap.size y1.heap.size B.length B.length B.length (ky B) (tg B) _ (HKB.out.below hby2) HTB.out lB).mono ?_
  rintro e y3 ⟨XB, rfl, hLB, hby3⟩
  have HLB : Hid (Idx y3 y2.heap.size B XB) := Idx.of_laid hLB
  have eqB : Hid (XB.length = B.length) := HLB.out.len
  clear hLB HKB HTB GB0 GB1
  have cumy3 : Below w.heap.size w y3 := ((cumx3.trans (hby1.mono (cumx3).size)).trans (hby2.mono ((cumx3.trans (hby1.mono (cumx3).size))).size)).trans (hby3.mono ((((cumx3.trans (hby1.mono (cumx3).size)).trans (hby2.mono ((cumx3.trans (hby1.mono (cumx3).size))).size)))).size)
  have prey3 : Below x3.heap.size x3 y3 := (hby1.trans (hby2.mono hby1.size)).trans (hby3.mono (hby1.trans (hby2.mono hby1.size)).size)
  go_wp2_with fail
  have GC0 : Hid (Arg y3 aC C bC oC) := HC.out.below cumy3
  refine (mkKeys_any aC C bC oC cC _ GC0.out lC).mono ?_
  rintro e z1 ⟨rfl, hkC, hbz1⟩
  have HKC : Hid (StrRow z1 y3.heap.size C.length (ky C)) := hkC
  have GC1 : Hid (Arg z1 aC C bC oC) := GC0.out.below hbz1
  clear hkC
  go_wp2_with fail
  refine (mkTags_any aC C bC oC cC _ GC1.out lC).mono ?_
  rintro e z2 ⟨rfl, htC, hbz2⟩
  have HTC : Hid (TagRow z2 z1.heap.size C.length (tg C)) := htC
  clear htC
  go_wp2_with fail
  refine (index_any y3.heap.size z1.heap.size C.length C.length C.length (ky C) (tg C) _ (HKC.out.below hbz2) HTC.out lC).mono ?_
  rintro e z3 ⟨XC, rfl, hLC, hbz3⟩
  have HLC : Hid (Idx z3 z2.heap.size C XC) := Idx.of_laid hLC
  have eqC : Hid (XC.length = C.length) := HLC.out.len
  clear hLC HKC HTC GC0 GC1
  have cumz3 : Below w.heap.size w z3 := ((cumy3.trans (hbz1.mono (cumy3).size)).trans (hbz2.mono ((cumy3.trans (hbz1.mono (cumy3).size))).size)).trans (hbz3.mono ((((cumy3.trans (hbz1.mono (cumy3).size)).trans (hbz2.mono ((cumy3.trans (hbz1.mono (cumy3).size))).size)))).size)
  have prez3 : Below y3.heap.size y3 z3 := (hbz1.trans (hbz2.mono hbz1.size)).trans (hbz3.mono (hbz1.trans (hbz2.mono hbz1.size)).size)
  have RA : Hid (Idx z3 x2.heap.size A XA) := (HLA.out.below prey3).below prez3
  have RB : Hid (Idx z3 y2.heap.size B XB) := HLB.out.below prez3
  have RC : Hid (Idx z3 z2.heap.size C XC) := HLC.out
  clear HLA HLB HLC
  have SA : Hid (Srt klt XA) := RA.out.srt IA.out
  have SB : Hid (Srt klt XB) := RB.out.srt IB.out
  have SC : Hid (Srt klt XC) := RC.out.srt IC.out
  obtain ⟨P1, hP1⟩ : ∃ P, merge klt XA XB = P := ⟨_, rfl⟩
  obtain ⟨Q1, hQ1⟩ : ∃ P, merge klt XB XC = P := ⟨_, rfl⟩
  obtain ⟨L, hL⟩ : ∃ P, merge klt P1 XC = P := ⟨_, rfl⟩
  have hR : merge klt XA Q1 = L := by rw [← hL, ← hP1, ← hQ1]; exact (merge_assoc kord SA.out SB.out SC.out).symm
  have nP1 : P1.length ≤ A.length + B.length := by rw [← hP1, ← eqA.out, ← eqB.out]; exact merge_length_le _ XA XB (Nat.le_refl _)
  have nQ1 : Q1.length ≤ B.length + C.length := by rw [← hQ1, ← eqB.out, ← eqC.out]; exact merge_length_le _ XB XC (Nat.le_refl _)
  have nL : L.length ≤ P1.length + C.length := by rw [← hL, ← eqC.out]; exact merge_length_le _ P1 XC (Nat.le_refl _)
  have EP : Hid (merge klt XA XB = P1) := hP1
  have EQ : Hid (merge klt XB XC = Q1) := hQ1
  have EL : Hid (merge klt P1 XC = L) := hL
  have ER : Hid (merge klt XA Q1 = L) := hR
  clear hP1 hQ1 hL hR
  have hz : z3.heap.size ≤ z3.heap.size := Nat.le_refl _
  go_wp2_with fail
  refine (zzmerge_to x2.heap.size A.length A.length y2.heap.size B.length B.length XA XB P1 _ EP.out eqA.out eqB.out RA.out.row RB.out.row (Nat.le_refl _) (Nat.le_refl _) (by unfold maxLen; omega) (by unfold maxLen; omega) (by omega)).mono ?_
  rintro e d1 ⟨g1, c1, rfl, r11, r12, r13, hd1⟩
  have W1 : Hid (IRow d1 g1 0 P1) := r13
  clear r13
  go_wp2_with fail
  refine (zzmerge_to g1 P1.length c1 z2.heap.size C.length C.length P1 XC L _ EL.out rfl eqC.out W1.out (RC.out.row.below hd1) r11 (Nat.le_refl _) r12 (by unfold maxLen; omega) (by omega)).mono ?_
  rintro e d2 ⟨g2, c2, rfl, r21, r22, r23, hd2⟩
  have W2 : Hid (IRow d2 g2 0 L) := r23
  clear r23
  have cd2 : Below z3.heap.size z3 d2 := hd1.trans (hd2.mono hd1.size)
  go_wp2_with fail
  refine (zzmerge_to y2.heap.size B.length B.length z2.heap.size C.length C.length XB XC Q1 _ EQ.out eqB.out eqC.out (RB.out.row.below cd2) (RC.out.row.below cd2) (Nat.le_refl _) (Nat.le_refl _) (by unfold maxLen; omega) (by unfold maxLen; omega) (by omega)).mono ?_
  rintro e d3 ⟨g3, c3, rfl, r31, r32, r33, hd3⟩
  have W3 : Hid (IRow d3 g3 0 Q1) := r33
  clear r33
  have cd3 : Below z3.heap.size z3 d3 := cd2.trans (hd3.mono cd2.size)
  go_wp2_with fail
  refine (zzmerge_to x2.heap.size A.length A.length g3 Q1.length c3 XA Q1 L _ ER.out eqA.out rfl (RA.out.row.below cd3) W3.out (Nat.le_refl _) r31 (by unfold maxLen; omega) r32 (by omega)).mono ?_
  rintro e d4 ⟨g4, c4, rfl, r41, r42, r43, hd4⟩
  have W4 : Hid (IRow d4 g4 0 L) := r43
  clear r43
  have cd4 : Below z3.heap.size z3 d4 := cd3.trans (hd4.mono cd3.size)
  have HI4 : Hid (∀ r, r < L.length → Hist d4 0 (ep L r) (et L r)) := by
    rw [← EL.out, ← EP.out]
    exact hist_merge (hist_merge (fun r hr => (RA.out.hist r hr).below cd4) (fun r hr => (RB.out.hist r hr).below cd4)) (fun r hr => (RC.out.hist r hr).below cd4)
  have W24 : Hid (IRow d4 g2 0 L) := (W2.out.below hd3).below hd4
  clear W1 W2 W3
  go_wp2_with fail
  refine (read_any g2 c2 0 L _ W24.out HI4.out (by omega)).mono ?_
  rintro e d5 ⟨k1, t1, rfl, rk1, rt1, hd5⟩
  have K1 : Hid (StrRow d5 k1 L.length (ek L)) := rk1
  have T1 : Hid (TagRow d5 t1 L.length (et L)) := rt1
  clear rk1 rt1
  go_wp2_with fail
  refine (read_any g4 c4 0 L _ (W4.out.below hd5) (fun r hr => (HI4.out r hr).below hd5) (by omega)).mono ?_
  rintro e d6 ⟨k2, t2, rfl, rk2, rt2, hd6⟩
  have K2 : Hid (StrRow d6 k2 L.length (ek L)) := rk2
  have T2 : Hid (TagRow d6 t2 L.length (et L)) := rt2
  have K1' : Hid (StrRow d6 k1 L.length (ek L)) := K1.out.below hd6
  have T1' : Hid (TagRow d6 t1 L.length (et L)) := T1.out.below hd6
  clear rk2 rt2 K1 T1 W4 W24 HI4
  have cd5 : Below z3.heap.size z3 d5 := cd4.trans (hd5.mono cd4.size)
  have cd6 : Below z3.heap.size z3 d6 := cd5.trans (hd6.mono cd5.size)
  have cw6 : Below w.heap.size w d6 := cumz3.trans (cd6.mono cumz3.size)
  have SP : Hid (Srt klt P1) := by show Srt klt P1; rw [← EP.out]; exact merge_srt kord SA.out SB.out
  have SL : Hid (Srt klt L) := by show Srt klt L; rw [← EL.out]; exact merge_srt kord SP.out SC.out
  have IL : Hid (Inc klt (ek L) L.length) := inc_of_srt SL.out
  have FC : Hid (∀ r, r < C.length → ∃ q, q < L.length ∧ ek L q = ky C r ∧ et L q = tg C r) := fun r hr => by
    obtain ⟨q, hq, e1, e2⟩ := merge_has_right SP.out SC.out (r := r) (by rw [eqC.out]; exact hr)
    rw [EL.out] at hq e1 e2
    have hs := RC.out.same r (by rw [eqC.out]; exact hr)
    exact ⟨q, hq, e1.trans hs.1, e2.trans hs.2⟩
  have FP : Hid (∀ r, r < P1.length → ∃ q, q < L.length ∧ ek L q = ek P1 r) := fun r hr => by
    obtain ⟨q, hq, e1⟩ := merge_has_left SP.out SC.out hr
    rw [EL.out] at hq e1
    exact ⟨q, hq, e1⟩
  have FA : Hid (∀ r, r < A.length → ∃ q, q < L.length ∧ ek L q = ky A r) := fun r hr => by
    obtain ⟨q, hq, e1⟩ := merge_has_left SA.out SB.out (r := r) (by rw [eqA.out]; exact hr)
    rw [EP.out] at hq e1
    obtain ⟨q', hq', e2⟩ := FP.out q hq
    exact ⟨q', hq', e2.trans (e1.trans (RA.out.same r (by rw [eqA.out]; exact hr)).1)⟩
  have FB : Hid (∀ r, r < B.length → ∃ q, q < L.length ∧ ek L q = ky B r) := fun r hr => by
    obtain ⟨q, hq, e1, _⟩ := merge_has_right SA.out SB.out (r := r) (by rw [eqB.out]; exact hr)
    rw [EP.out] at hq e1
    obtain ⟨q', hq', e2⟩ := FP.out q hq
    exact ⟨q', hq', e2.trans (e1.trans (RB.out.same r (by rw [eqB.out]; exact hr)).1)⟩
  clear RA RB RC SA SB SC SP SL EP EQ EL ER FP
  go_wp2
  go_loopw [16] (fun i wr => ∃ k q : Nat, k ≤ L.length ∧ i = .int .i64 k ∧ wr = d6.drewN q) (fun i _ => L.length - (intOf i).toNat)
  case atStart => exact ⟨0, 0, Nat.zero_le _, rfl, rfl⟩
  case round =>
    obtain ⟨k, q, hk, rfl, rfl⟩ := hrel
    by_cases hlt : k < L.length
    · have e1 := K1'.out.cell k hlt
      have e2 := K2.out.cell k hlt
      have e3 := T1'.out.cell k hlt
      have e4 := T2.out.cell k hlt
      have i1 : (0 : Int) ≤ (k : Int) := by omega
      have i2 : (k : Int) < (L.length : Int) := by omega
      go_wp2
      go_quiet (fail)
      go_wp2
      go_roundw
      case rel => exact ⟨k + 1, q + nq, by omega, by go_num, by simp⟩
      case measure => simp [intOf]; omega
    · have K3 : Hid (StrRow (d6.drewN q) k1 L.length (ek L)) := K1'.out.below (below_drewN q)
      go_wp2_with fail
      refine (mkSortedKeys_any k1 L.length L.length (ek L) _ K3.out (by omega) IL.out).mono ?_
      rintro e d7 ⟨rfl, hd7⟩
      have K4 : Hid (StrRow d7 k1 L.length (ek L)) := K3.out.below hd7
      have T4 : Hid (TagRow d7 t1 L.length (et L)) := (T1'.out.below (below_drewN q)).below hd7
      have cw7 : Below w.heap.size w d7 := (below_draws cw6 q).trans (hd7.mono (below_draws cw6 q).size)
      have A7 : Hid (Arg d7 aA A bA oA) := HA.out.below cw7
      have B7 : Hid (Arg d7 aB B bB oB) := HB.out.below cw7
      have C7 : Hid (Arg d7 aC C bC oC) := HC.out.below cw7
      clear K3 K1' T1' K2 T2
      go_wp2
      go_loopw [17] (fun i wr => ∃ k q : Nat, k ≤ C.length ∧ i = .int .i64 k ∧ wr = d7.drewN q) (fun i _ => C.length - (intOf i).toNat)
      case atStart => exact ⟨0, 0, Nat.zero_le _, rfl, rfl⟩
      case round =>
        obtain ⟨m, q2, hm, rfl, rfl⟩ := hrel
        by_cases hlm : m < C.length
        · have hix := C7.out.index cC m hlm
          have f1 := C7.out.key m hlm
          have f2 := C7.out.tag m hlm
          obtain ⟨p, hp, hpk, hpt⟩ := FC.out m hlm
          have f3 := T4.out.cell p hp
          rw [hpt] at f3
          have HPK : Hid (ek L p = ky C m) := hpk
          have i1 : (0 : Int) ≤ (m : Int) := by omega
          have i2 : (m : Int) < (C.length : Int) := by omega
          have i3 : (0 : Int) ≤ (p : Int) := by omega
          have i4 : (p : Int) < (L.length : Int) := by omega
          clear hpk hpt
          go_wp2_with (go_at_call 15; refine (mkFindKey_yes k1 L.length L.length (ek L) (ky C m) _ (K4.out.below (below_drewN q2)) (by omega) IL.out p hp HPK.out).mono ?_; rintro e w' ⟨rfl, rfl⟩)
          go_quiet (fail)
          go_wp2
          go_roundw
          case rel => exact ⟨m + 1, q2 + nq, by omega, by go_num, by simp⟩
          case measure => simp [intOf]; omega
        · have K8 : Hid (StrRow (d7.drewN q2) k1 L.length (ek L)) := K4.out.below (below_drewN q2)
          have A8 : Hid (Arg (d7.drewN q2) aA A bA oA) := A7.out.below (below_drewN q2)
          have B8 : Hid (Arg (d7.drewN q2) aB B bB oB) := B7.out.below (below_drewN q2)
          have cw8 : Below w.heap.size w (d7.drewN q2) := below_draws cw7 q2
          clear K4 T4 A7 B7 C7
          go_wp2
          go_loop [20] (fun i => ∃ k : Nat, k ≤ A.length ∧ i = .int .i64 k) (fun i => A.length - (intOf i).toNat)
          case atStart => exact ⟨0, Nat.zero_le _, rfl⟩
          case round =>
            obtain ⟨m3, hm3, rfl⟩ := hrel
            by_cases hl3 : m3 < A.length
            · have hix := A8.out.index cA m3 hl3
              have f1 := A8.out.key m3 hl3
              obtain ⟨p, hp, hpk⟩ := FA.out m3 hl3
              have HPK : Hid (ek L p = ky A m3) := hpk
              clear hpk
              go_wp2_with (go_at_call 15; refine (mkFindKey_yes k1 L.length L.length (ek L) (ky A m3) _ K8.out (by omega) IL.out p hp HPK.out).mono ?_; rintro e w' ⟨rfl, rfl⟩)
              go_round
              case rel => exact ⟨m3 + 1, by omega, by go_num⟩
              case measure => simp [intOf]; omega
            · go_wp2
              go_loop [23] (fun i => ∃ k : Nat, k ≤ B.length ∧ i = .int .i64 k) (fun i => B.length - (intOf i).toNat)
              case atStart => exact ⟨0, Nat.zero_le _, rfl⟩
              case round =>
                obtain ⟨m4, hm4, rfl⟩ := hrel
                by_cases hl4 : m4 < B.length
                · have hix := B8.out.index cB m4 hl4
                  have f1 := B8.out.key m4 hl4
                  obtain ⟨p, hp, hpk⟩ := FB.out m4 hl4
                  have HPK : Hid (ek L p = ky B m4) := hpk
                  clear hpk
                  go_wp2_with (go_at_call 15; refine (mkFindKey_yes k1 L.length L.length (ek L) (ky B m4) _ K8.out (by omega) IL.out p hp HPK.out).mono ?_; rintro e w' ⟨rfl, rfl⟩)
                  go_round
                  case rel => exact ⟨m4 + 1, by omega, by go_num⟩
                  case measure => simp [intOf]; omega
                · go_wp2
                  go_ret
                  exact ⟨rfl, cw8⟩

end Go.Proofs.Qxb6605327aMods
