/-
  Seat b6603298aM: the walks of zzComponents (14) and zzWithinModel (9).
-/
import Derived.Test.Qxb6603298aModsWithin
import Derived.Test.Qxb6603298aModsComps
import Derived.Lib.AppendStr
import Derived.Deep.QuietTactic
import Derived.BigQuiet
namespace Go.Proofs.Qxb6603298aMods
open Go.RowKit Plain

theorem Trym.info9 : (Trym.prog.info? 9).map (fun i => (i.zero, i.size, i.bytes)) = some (some (.string ByteArray.empty), 1, 16) := by kernel_rfl
theorem Trym.info5 : (Trym.prog.info? 5).map (fun i => (i.zero, i.size, i.bytes)) = some (some (.int .u8 0), 1, 1) := by kernel_rfl

def lists (D : List ByteArray) : List (List UInt8) := D.map (·.toList)
def strs (D : List ByteArray) : List Value := D.map Value.string
theorem lists_snoc (D : List ByteArray) (x : ByteArray) : lists (D ++ [x]) = lists D ++ [x.toList] := by simp [lists]
theorem strs_snoc (D : List ByteArray) (x : ByteArray) : strs (D ++ [x]) = strs D ++ [.string x] := by simp [strs]

/-- What the loop of zzComponents has done at place k, the piece in hand from t on. -/
def CInv (s : ByteArray) (k t : Nat) (D : List ByteArray) : Prop :=
  (k ≤ s.size → lists D ++ sp (s.extract t k).toList (s.toList.drop k) = comps s.toList) ∧ (k = s.size + 1 → lists D = comps s.toList)

theorem CInv.start {s : ByteArray} (h : 1 < s.size) : CInv s 1 1 [] := by
  refine ⟨fun _ => ?_, fun e => by omega⟩
  unfold comps
  rw [if_neg (by rw [toList_size]; omega), toList_extract, Nat.sub_self, List.take_zero]; rfl
theorem CInv.cut {s : ByteArray} {k t : Nat} {D : List ByteArray} (h : CInv s k t D) (hk : k < s.size) (c : (s[k].toNat : Int) = 47) : CInv s (k + 1) (k + 1) (D ++ [s.extract t k]) := by
  have h1 := h.1 (by omega)
  rw [toList_at s k hk, byte_slash c, sp_slash] at h1
  refine ⟨fun _ => ?_, fun e => by omega⟩
  rw [lists_snoc, toList_extract s (k + 1) (k + 1), Nat.sub_self, List.take_zero]
  simpa using h1
theorem CInv.pass {s : ByteArray} {k t : Nat} {D : List ByteArray} (h : CInv s k t D) (ht : t ≤ k) (hk : k < s.size) (c : ¬ (s[k].toNat : Int) = 47) : CInv s (k + 1) t D := by
  have h1 := h.1 (by omega)
  rw [toList_at s k hk, sp_other _ _ _ (byte_noslash c)] at h1
  refine ⟨fun _ => ?_, fun e => by omega⟩
  have e : (s.extract t (k + 1)).toList = (s.extract t k).toList ++ [s[k]] := by
    rw [toList_extract, toList_extract, show k + 1 - t = (k - t) + 1 by omega, List.take_add_one]
    congr 1
    rw [List.getElem?_drop, show t + (k - t) = k by omega, ByteArray.toList_eq]
    rw [List.getElem?_eq_getElem (by rw [Array.length_toList]; exact hk)]; rfl
  rw [e]; exact h1
theorem CInv.last {s : ByteArray} {t : Nat} {D : List ByteArray} (h : CInv s s.size t D) : CInv s (s.size + 1) (s.size + 1) (D ++ [s.extract t s.size]) := by
  have h1 := h.1 (Nat.le_refl _)
  rw [List.drop_eq_nil_of_le (by rw [toList_size]; exact Nat.le_refl _)] at h1
  refine ⟨fun e => by omega, fun _ => ?_⟩
  rw [lists_snoc]; exact h1

set_option maxHeartbeats 1600000 in
set_option maxRecDepth 1000000 in
theorem comps_any (s : ByteArray) (w : World) (hs : s.size ≤ 200000) :
    Calls Trym.prog 14 #[.string s] w fun e w' => ∃ v D, e = .returned v ∧ lists D = comps s.toList ∧ D.length ≤ s.size + 1 ∧ w'.ownsRow w.heap.size 9 1 v D.length (strs D) ∧ Below w.heap.size w w' := by
  obtain ⟨i0, hi, hz0, hz1, hz2⟩ := info_parts Trym.info9
  by_cases h1 : s.size ≤ 1
  · have hc : comps s.toList = [] := by unfold comps; rw [if_pos (by rw [toList_size]; exact h1)]
    go_enter Trym.func14, Trym.ntmps14
    go_wp2
    go_ret
    exact ⟨_, [], rfl, by rw [hc]; rfl, by simp, World.ownsRow_nil _ _ _ _, Below.refl _ _⟩
  have h1' : 1 < s.size := by omega
  go_enter Trym.func14, Trym.ntmps14
  go_wp2
  go_loopw [3, 4, 5] (fun v st i wr => ∃ (k t : Nat) (D : List ByteArray), t ≤ k ∧ k ≤ s.size + 1 ∧ D.length ≤ k ∧ st = .int .i64 t ∧ i = .int .i64 k ∧
      Hid (CInv s k t D) ∧ wr.ownsRow w.heap.size 9 1 v D.length (strs D) ∧ Below w.heap.size w wr)
    (fun _ _ i _ => s.size + 1 - (intOf i).toNat)
  case atStart => exact ⟨1, 1, [], Nat.le_refl _, by omega, by simp, rfl, rfl, CInv.start h1', World.ownsRow_nil _ _ _ _, Below.refl _ _⟩
  case round =>
    obtain ⟨k, t, D, htk, hks, hDk, rfl, rfl, HI, hown, hnx⟩ := hrel
    have hsz := hnx.size
    by_cases hle : k ≤ s.size
    · by_cases hlt : k < s.size
      · have hne : ((k : Int) == (s.size : Int)) = false := by rw [beq_eq_false_iff_ne]; omega
        by_cases c1 : (s[k].toNat : Int) = 47
        · have c2 : ((s[k].toNat : Int) == 47) = true := by simpa using c1
          have HJ : Hid (CInv s (k + 1) (k + 1) (D ++ [s.extract t k])) := HI.out.cut hlt c1
          go_wp2_with (at_builtin; refine wpList_append_own _ rfl _ _ 28 rfl w.heap.size 9 i0 (.string ByteArray.empty) 1 16 Trym.underlying28 hi hz0 hz1 hz2 rfl (by decide) _ _ _ rfl (hown.alloc _) ⟨wr.heap.size, 0, none⟩ 1 1 [.string (s.extract t k)] rfl rfl (cell_one_new _ _ _) ?c2 ?c3 ?c4 ?c5 ?_)
          case c2 => intro u hu; simp at hu; subst hu; rfl
          case c3 => unfold maxLen; omega
          case c4 => omega
          case c5 => simp; omega
          intro v' w1 hown' hgrow _
          have hb1 := (hnx.alloc (by omega) _).grown hgrow (by simp; omega) (fun g hg => (hown.lt g hg).1)
          clear hown hgrow hnx
          go_wp2
          go_roundw
          case rel => exact ⟨k + 1, k + 1, D ++ [s.extract t k], by omega, by omega, by simp; omega, by go_num, by go_num, HJ, by rw [strs_snoc, List.length_append]; exact hown', hb1⟩
          case measure => simp [intOf]; omega
        · have c2 : ((s[k].toNat : Int) == 47) = false := by simpa using c1
          have HJ : Hid (CInv s (k + 1) t D) := HI.out.pass htk hlt c1
          go_wp2
          go_roundw
          case rel => exact ⟨k + 1, t, D, by omega, by omega, by omega, rfl, by go_num, HJ, hown, hnx⟩
          case measure => simp [intOf]; omega
      · have hk : k = s.size := by omega
        subst hk
        have HJ : Hid (CInv s (s.size + 1) (s.size + 1) (D ++ [s.extract t s.size])) := HI.out.last
        go_wp2_with (at_builtin; refine wpList_append_own _ rfl _ _ 28 rfl w.heap.size 9 i0 (.string ByteArray.empty) 1 16 Trym.underlying28 hi hz0 hz1 hz2 rfl (by decide) _ _ _ rfl (hown.alloc _) ⟨wr.heap.size, 0, none⟩ 1 1 [.string (s.extract t s.size)] rfl rfl (cell_one_new _ _ _) ?d2 ?d3 ?d4 ?d5 ?_)
        case d2 => intro u hu; simp at hu; subst hu; rfl
        case d3 => unfold maxLen; omega
        case d4 => omega
        case d5 => simp; omega
        intro v' w1 hown' hgrow _
        have hb1 := (hnx.alloc (by omega) _).grown hgrow (by simp; omega) (fun g hg => (hown.lt g hg).1)
        clear hown hgrow hnx
        go_wp2
        go_roundw
        case rel => exact ⟨s.size + 1, s.size + 1, D ++ [s.extract t s.size], by omega, by omega, by simp; omega, by go_num, by go_num, HJ, by rw [strs_snoc, List.length_append]; exact hown', hb1⟩
        case measure => simp [intOf]
    · have hE := HI.out.2 (by omega)
      have HE : Hid (lists D = comps s.toList) := hE
      clear hE
      go_wp2
      go_ret
      exact ⟨_, D, rfl, HE.out, by omega, hown, hnx⟩

/-- The same, the value's shape and its cells written out. -/
theorem comps_rows (s : ByteArray) (w : World) (hs : s.size ≤ 200000) :
    Calls Trym.prog 14 #[.string s] w fun e w' => ∃ v D, e = .returned v ∧ lists D = comps s.toList ∧ D.length ≤ s.size + 1 ∧ Below w.heap.size w w' ∧
      ((∃ ao cap, v = .slice ao 0 cap ∧ D = []) ∨ ∃ g cap, v = .slice (some ⟨g, 0, none⟩) D.length cap ∧ 0 < D.length ∧ g < w'.heap.size ∧ ∀ k, k < D.length → w'.cell? ⟨g, k, none⟩ = some (.string (D.getD k ByteArray.empty))) := by
  refine (comps_any s w hs).mono ?_
  rintro e w' ⟨v, D, rfl, h1, h2, hown, hb⟩
  refine ⟨v, D, rfl, h1, h2, hb, ?_⟩
  by_cases h0 : D.length = 0
  · have hD : D = [] := List.eq_nil_of_length_eq_zero h0
    subst hD
    rcases hown.2 with ⟨rfl, _⟩ | ⟨g, cap, cur, rfl, _⟩
    · exact .inl ⟨_, _, rfl, rfl⟩
    · exact .inl ⟨_, _, rfl, rfl⟩
  · rcases hown.2 with ⟨_, h⟩ | ⟨g, cap, cur, rfl, hbg, hh, _⟩
    · omega
    · refine .inr ⟨g, cap, rfl, by omega, (Array.getElem?_eq_some_iff.1 hh).1, fun k hk => ?_⟩
      rw [hown.cellAt k (by omega)]
      simp [strs, List.getD, hk]

def mk (l : List UInt8) : ByteArray := ⟨l.toArray⟩
theorem mk_toList (l : List UInt8) : (mk l).toList = l := ByteArray.toList_mk l

def byteVals (l : List UInt8) : List Value := l.map fun b => Value.int .u8 b.toNat
theorem byteVals_length (l : List UInt8) : (byteVals l).length = l.length := by simp [byteVals]
theorem byteVals_append (a b : List UInt8) : byteVals (a ++ b) = byteVals a ++ byteVals b := by simp [byteVals]
theorem strCells_byteVals (s : ByteArray) : Lib.strCells s = byteVals s.toList := by rw [ByteArray.toList_eq]; rfl

/-- The first k pieces agree. -/
def agree (D1 D2 : List ByteArray) (k : Nat) : Prop := ∀ j, j < k → (D1.getD j ByteArray.empty).toList = (D2.getD j ByteArray.empty).toList

theorem agree_all {D1 D2 : List ByteArray} (hl : D1.length ≤ D2.length) (h : agree D1 D2 D1.length) : (lists D2).take (lists D1).length = lists D1 := by
  apply List.ext_getElem?
  intro j
  have e1 : (lists D1).length = D1.length := by simp [lists]
  rw [List.getElem?_take]
  by_cases hj : j < D1.length
  · have := h j hj
    rw [if_pos (by omega)]
    simp [lists, List.getD, hj, show j < D2.length by omega] at this ⊢
    exact this.symm
  · rw [if_neg (by omega), List.getElem?_eq_none (by omega)]
theorem agree_not {D1 D2 : List ByteArray} {k : Nat} (h1 : k < D1.length) (h2 : D1.length ≤ D2.length) (h : ¬ (D1.getD k ByteArray.empty).toList = (D2.getD k ByteArray.empty).toList) : ¬ (lists D2).take (lists D1).length = lists D1 := by
  intro e
  apply h
  have e1 : (lists D1).length = D1.length := by simp [lists]
  have := congrArg (·[k]?) e
  simp only [List.getElem?_take] at this
  rw [if_pos (by omega)] at this
  simp [lists, h1, show k < D2.length by omega] at this
  simp [List.getD, h1, show k < D2.length by omega]
  exact this.symm
theorem agree_short {D1 D2 : List ByteArray} (h : D2.length < D1.length) : ¬ (lists D2).take (lists D1).length = lists D1 := by
  intro e
  have := congrArg List.length e
  simp [lists] at this
  omega

/-- What the model has built ahead of round k. -/
def built (n : Nat) (D : List ByteArray) (k : Nat) : List UInt8 := 47 :: jo (((lists D).drop n).take (k - n))

theorem built_start (n : Nat) (D : List ByteArray) : built n D n = [47] := by simp [built, jo]
theorem built_first {n : Nat} {D : List ByteArray} (h : n < D.length) : built n D (n + 1) = built n D n ++ (D.getD n ByteArray.empty).toList := by
  have e : ((lists D).drop n).take (n + 1 - n) = [(D.getD n ByteArray.empty).toList] := by
    rw [show n + 1 - n = 0 + 1 by omega, List.take_add_one]
    simp [lists, List.getD, h]
  rw [built_start, built, e]; rfl
theorem built_next {n k : Nat} {D : List ByteArray} (h0 : n < k) (h : k < D.length) : built n D (k + 1) = built n D k ++ [47] ++ (D.getD k ByteArray.empty).toList := by
  have hl : ((lists D).drop n).take (k - n) ≠ [] := by
    intro e
    have := congrArg List.length e
    simp [lists] at this
    omega
  have e : ((lists D).drop n).take (k + 1 - n) = ((lists D).drop n).take (k - n) ++ [(D.getD k ByteArray.empty).toList] := by
    rw [show k + 1 - n = (k - n) + 1 by omega, List.take_add_one, List.getElem?_drop, show n + (k - n) = k by omega]
    simp [lists, List.getD, h]
  rw [built, e, jo_snoc _ _ hl, built]; simp
theorem built_end (n : Nat) (D : List ByteArray) : built n D D.length = 47 :: jo ((lists D).drop n) := by
  rw [built, List.take_of_length_le (by simp [lists])]

theorem jo_take_le (X : List (List UInt8)) (m : Nat) : (jo (X.take m)).length ≤ (jo X).length := by
  by_cases h1 : X.take m = []
  · rw [h1]; simp [jo]
  by_cases h2 : X.drop m = []
  · have := List.take_append_drop m X
    rw [h2, List.append_nil] at this
    rw [this]; exact Nat.le_refl _
  · have := congrArg (fun t => (jo t).length) (List.take_append_drop m X)
    simp only [jo_append h1 h2, List.length_append] at this
    omega
theorem jo_drop_le (X : List (List UInt8)) (m : Nat) : (jo (X.drop m)).length ≤ (jo X).length := by
  by_cases h1 : X.drop m = []
  · rw [h1]; simp [jo]
  by_cases h2 : X.take m = []
  · have := List.take_append_drop m X
    rw [h2, List.nil_append] at this
    rw [this]; exact Nat.le_refl _
  · have := congrArg (fun t => (jo t).length) (List.take_append_drop m X)
    simp only [jo_append h2 h1, List.length_append, List.length_cons] at this
    omega
theorem jo_comps_le (l : List UInt8) : (jo (comps l)).length ≤ l.length := by
  unfold comps
  split
  · simp [jo]
  · rw [jo_sp]; simp
theorem built_le {n k : Nat} {D : List ByteArray} {s : ByteArray} (h : lists D = comps s.toList) : (built n D k).length ≤ s.size + 1 := by
  unfold built
  have h1 := jo_take_le ((lists D).drop n) (k - n)
  have h2 := jo_drop_le (lists D) n
  have h3 := jo_comps_le s.toList
  rw [toList_size, ← h] at h3
  simp only [List.length_cons]
  omega

theorem model_no {base p : ByteArray} {D1 D2 : List ByteArray} (h1 : lists D1 = comps base.toList) (h2 : lists D2 = comps p.toList) (h : ¬ (lists D2).take (lists D1).length = lists D1) : model (comps base.toList) (comps p.toList) = ([], false) := by
  rw [← h1, ← h2, model, if_neg h]
theorem model_yes {base p : ByteArray} {D1 D2 : List ByteArray} (h1 : lists D1 = comps base.toList) (h2 : lists D2 = comps p.toList) (h : (lists D2).take (lists D1).length = lists D1) : model (comps base.toList) (comps p.toList) = (built D1.length D2 D2.length, true) := by
  rw [← h1, ← h2, model, if_pos h, built_end]
  simp [lists]

set_option maxHeartbeats 1600000 in
set_option maxRecDepth 1000000 in
theorem model_any (base p : ByteArray) (w : World) (hs1 : base.size ≤ 200000) (hs2 : p.size ≤ 200000) :
    Calls Trym.prog 9 #[.string base, .string p] w fun e w' => ∃ l b, e = .returned (.tuple #[.string (mk l), .bool b]) ∧ model (comps base.toList) (comps p.toList) = (l, b) ∧ Below w.heap.size w w' := by
  obtain ⟨i0, hi, hz0, hz1, hz2⟩ := info_parts Trym.info5
  go_enter Trym.func9, Trym.ntmps9
  go_wp2_with fail
  refine (comps_rows base _ hs1).mono ?_
  rintro e w1 ⟨v1, D1, rfl, hD1, hl1, hb1, hsh1⟩
  have HD1 : Hid (lists D1 = comps base.toList) := hD1
  clear hD1
  go_wp2_with fail
  refine (comps_rows p _ hs2).mono ?_
  rintro e w2 ⟨v2, D2, rfl, hD2, hl2, hb2, hsh2⟩
  have HD2 : Hid (lists D2 = comps p.toList) := hD2
  clear hD2
  have hb12 : Below w.heap.size w w2 := hb1.trans (hb2.mono hb1.size)
  rcases hsh1 with ⟨ao1, c1, rfl, rfl⟩ | ⟨g1, c1, rfl, hp1, hg1, hc1⟩
  · have HY : Hid (model (comps base.toList) (comps p.toList) = (built 0 D2 D2.length, true)) := model_yes HD1.out HD2.out rfl
    rcases hsh2 with ⟨ao2, c2, rfl, rfl⟩ | ⟨g2, c2, rfl, hp2, hg2, hc2⟩
    · have kc : (convert 30 9 (.slice (some ⟨w2.heap.size, 0, none⟩) 1 1)).run Trym.prog (w2.alloc (.cells #[.int .u8 47] 5)) = .ok (.string ⟨#[47]⟩) (w2.alloc (.cells #[.int .u8 47] 5)) := run_convert_bytes_back (P := Trym.prog) (w2.alloc (.cells #[.int .u8 47] 5)) 30 9 5 ⟨w2.heap.size, 0, none⟩ 1 [47] Trym.underlying30 Trym.underlying5 Trym.underlying9 (fun j hj => by
        have hj0 : j = 0 := by simpa using hj
        subst hj0
        exact cell_one_new w2 (.int .u8 47) 5 0 (.int .u8 47) rfl)
      have hbb := hb12.alloc (w := w2) hb12.size (.cells #[.int .u8 47] 5)
      go_wp2
      go_loop [8] (fun i => i = .int .i64 0) (fun _ => 0)
      case atStart => rfl
      case round =>
        subst hrel
        go_wp2
        go_loop [9, 10] (fun v i => v = .slice (some ⟨w2.heap.size, 0, none⟩) 1 1 ∧ i = .int .i64 0) (fun _ _ => 0)
        case atStart => exact ⟨rfl, rfl⟩
        case round =>
          obtain ⟨rfl, rfl⟩ := hrel
          go_wp2
          go_ret2
          exact ⟨built 0 [] 0, .inr ⟨rfl, HY.out, hbb⟩⟩
    · have HC2 : Hid (∀ k, k < D2.length → w2.cell? ⟨g2, k, none⟩ = some (.string (D2.getD k ByteArray.empty))) := hc2
      clear hc2
      have hd0 : decide (D2.length < 0) = false := rfl
      have hd1 : decide ((D2.length : Int) < 0) = false := by simp
      go_wp2
      go_loop [8] (fun i => i = .int .i64 0) (fun _ => 0)
      case atStart => rfl
      case round =>
            subst hrel
            go_wp2
            go_loopw [9, 10] (fun v i wr => ∃ k : Nat, 0 ≤ k ∧ k ≤ D2.length ∧ i = .int .i64 k ∧ wr.ownsRow w2.heap.size 5 1 v (built 0 D2 k).length (byteVals (built 0 D2 k)) ∧ Below w2.heap.size w2 wr)
              (fun _ i _ => D2.length - (intOf i).toNat)
            case atStart => exact ⟨0, Nat.le_refl _, Nat.zero_le _, rfl, by rw [built_start]; exact World.ownsRow_lit (base := w2.heap.size) (e := 5) (size := 1) (w2) #[.int .u8 47] 1 (Nat.le_refl _) (by decide) rfl, Below.alloc (B := w2.heap.size) (a := w2) (w := w2) (Below.refl _ _) (Nat.le_refl _) _⟩
            case round =>
              obtain ⟨k, hk1, hk2, rfl, hown, hnx⟩ := hrel
              have hsz := hnx.size
              have hbl := built_le (n := 0) (k := k) HD2.out
              by_cases hlt : k < D2.length
              · have hbl' := built_le (n := 0) (k := k + 1) HD2.out
                have e2 : wr.cell? ⟨g2, k, none⟩ = some (.string (D2.getD k ByteArray.empty)) := (hnx.cell (p := ⟨g2, k, none⟩) hg2).trans (HC2.out k hlt)
                obtain ⟨y, hy⟩ : ∃ y, y = D2.getD k ByteArray.empty := ⟨_, rfl⟩
                rw [← hy] at e2
                by_cases hgt : 0 < k
                · have hn := built_next hgt hlt
                  rw [← hy] at hn
                  have HN : Hid (built 0 D2 (k + 1) = built 0 D2 k ++ [47] ++ y.toList) := hn
                  have hys : (built 0 D2 k).length + 1 + y.size ≤ p.size + 1 := by
                    rw [hn] at hbl'
                    simp only [List.length_append, List.length_cons, List.length_nil, toList_size] at hbl'
                    omega
                  clear hn hy hbl'
                  go_wp2_with (at_builtin; refine wpList_append_own _ rfl _ _ 30 rfl w2.heap.size 5 i0 (.int .u8 0) 1 1 Trym.underlying30 hi hz0 hz1 hz2 rfl (by decide) _ _ _ rfl (hown.alloc _) ⟨wr.heap.size, 0, none⟩ 1 1 [.int .u8 47] rfl rfl (cell_one_new _ _ _) ?g1 ?g2 ?g3 ?g4 ?_)
                  case g1 => intro u hu; simp at hu; subst hu; rfl
                  case g2 => unfold maxLen; omega
                  case g3 => omega
                  case g4 => simp; omega
                  intro v3 w3 hown3 hgrow3 _
                  have hb3 := (hnx.alloc (by omega) _).grown hgrow3 (by simp; omega) (fun g hg => (hown.lt g hg).1)
                  have e3 : w3.cell? ⟨g2, k, none⟩ = some (.string y) := (hb3.cell (p := ⟨g2, k, none⟩) hg2).trans ((hnx.cell (p := ⟨g2, k, none⟩) hg2).symm.trans e2)
                  have hsz3 := hb3.size
                  clear hown hgrow3 hnx e2
                  go_wp2_with (at_builtin; refine Lib.wpList_append_own_string _ rfl _ _ 30 9 rfl w2.heap.size 5 i0 Trym.underlying30 Trym.underlying9 hi hz0 hz1 hz2 _ _ _ rfl hown3 y rfl ?h1 ?h2 ?h3 ?_)
                  case h1 => unfold maxLen; omega
                  case h2 => omega
                  case h3 => omega
                  intro v4 w4 hown4 hgrow4 _
                  have hb4 := hb3.grown hgrow4 hsz3 (fun g hg => (hown3.lt g hg).1)
                  clear hown3 hgrow4 hb3
                  go_wp2
                  go_roundw
                  case rel => exact ⟨k + 1, by omega, by omega, by go_num, by rw [HN.out, byteVals_append, byteVals_append, List.length_append, List.length_append, toList_size, ← strCells_byteVals, List.append_assoc]; exact hown4, hb4⟩
                  case measure => simp [intOf]; omega
                · have hke : k = 0 := by omega
                  subst hke
                  have hn := built_first hlt
                  rw [← hy] at hn
                  have HN : Hid (built 0 D2 (1) = built 0 D2 0 ++ y.toList) := hn
                  have hys : (built 0 D2 0).length + y.size ≤ p.size + 1 := by
                    rw [hn] at hbl'
                    simp only [List.length_append, toList_size] at hbl'
                    omega
                  clear hn hy hbl'
                  go_wp2_with (at_builtin; refine Lib.wpList_append_own_string _ rfl _ _ 30 9 rfl w2.heap.size 5 i0 Trym.underlying30 Trym.underlying9 hi hz0 hz1 hz2 _ _ _ rfl hown y rfl ?f1 ?f2 ?f3 ?_)
                  case f1 => unfold maxLen; omega
                  case f2 => omega
                  case f3 => omega
                  intro v' w3 hown' hgrow _
                  have hb3 := hnx.grown hgrow hsz (fun g hg => (hown.lt g hg).1)
                  clear hown hgrow hnx
                  go_wp2
                  go_roundw
                  case rel => exact ⟨1, by omega, by omega, by go_num, by rw [HN.out, byteVals_append, List.length_append, toList_size, ← strCells_byteVals]; exact hown', hb3⟩
                  case measure => simp [intOf]; omega
              · have hke : k = D2.length := by omega
                subst hke
                have hbb := hb12.trans (hnx.mono hb12.size)
                obtain ⟨L, hL⟩ : ∃ L, L = built 0 D2 D2.length := ⟨_, rfl⟩
                rw [← hL] at hown
                have HL : Hid (L = built 0 D2 D2.length) := hL
                have hpos : 0 < L.length := by rw [hL]; simp [built]
                clear hL
                rcases hown.2 with ⟨_, h⟩ | ⟨gl, cl, cur, rfl, _⟩
                · omega
                · have kc := run_convert_bytes_back (P := Trym.prog) wr 30 9 5 ⟨gl, 0, none⟩ cl L Trym.underlying30 Trym.underlying5 Trym.underlying9 (fun j hj => by
                    rw [Addr.add_lit, Nat.zero_add, hown.cellAt j (by omega)]
                    simp [byteVals, hj])
                  clear hown hnx
                  go_wp2
                  go_ret2
                  exact ⟨L, true, rfl, by rw [HL.out]; exact HY.out, hbb⟩
  · rcases hsh2 with ⟨ao2, c2, rfl, rfl⟩ | ⟨g2, c2, rfl, hp2, hg2, hc2⟩
    · have HN : Hid (model (comps base.toList) (comps p.toList) = ([], false)) := model_no HD1.out HD2.out (agree_short hp1)
      go_wp2
      go_ret2
      exact ⟨[], false, rfl, HN.out, hb12⟩
    · by_cases hlen : D1.length ≤ D2.length
      · have hcc : ∀ k, k < D1.length → w2.cell? ⟨g1, k, none⟩ = some (.string (D1.getD k ByteArray.empty)) := fun k hk => (hb2.cell (p := ⟨g1, k, none⟩) hg1).trans (hc1 k hk)
        clear hc1
        have HC1 : Hid (∀ k, k < D1.length → w2.cell? ⟨g1, k, none⟩ = some (.string (D1.getD k ByteArray.empty))) := hcc
        have HC2 : Hid (∀ k, k < D2.length → w2.cell? ⟨g2, k, none⟩ = some (.string (D2.getD k ByteArray.empty))) := hc2
        clear hcc hc2
        have hd0 : decide (D2.length < D1.length) = false := by simpa using hlen
        have hd1 : decide ((D2.length : Int) < (D1.length : Int)) = false := by simpa using hlen
        go_wp2
        go_loopw [8] (fun i wr => ∃ k q : Nat, k ≤ D1.length ∧ i = .int .i64 k ∧ wr = w2.drewN q ∧ Hid (agree D1 D2 k)) (fun i _ => D1.length - (intOf i).toNat)
        case atStart => exact ⟨0, 0, Nat.zero_le _, rfl, rfl, fun j hj => absurd hj (by omega)⟩
        case round =>
          obtain ⟨k, q, hk, rfl, rfl, HA⟩ := hrel
          by_cases hlt : k < D1.length
          · have e1 := HC1.out k hlt
            have e2 := HC2.out k (by omega)
            have i1 : (0 : Int) ≤ (k : Int) := by omega
            have i2 : (k : Int) < (D1.length : Int) := by omega
            have i3 : (k : Int) < (D2.length : Int) := by omega
            obtain ⟨x, hx⟩ : ∃ x, x = D1.getD k ByteArray.empty := ⟨_, rfl⟩
            obtain ⟨y, hy⟩ : ∃ y, y = D2.getD k ByteArray.empty := ⟨_, rfl⟩
            rw [← hx] at e1
            rw [← hy] at e2
            have HX : Hid (x = D1.getD k ByteArray.empty) := hx
            have HY : Hid (y = D2.getD k ByteArray.empty) := hy
            clear hx hy
            by_cases hxy : x.toList = y.toList
            · have HB : Hid (agree D1 D2 (k + 1)) := by
                intro j hj
                by_cases hjk : j < k
                · exact HA.out j hjk
                · have : j = k := by omega
                  subst this
                  rw [← HX.out, ← HY.out]; exact hxy
              go_wp2
              go_quiet (fail)
              go_wp2
              go_roundw
              case rel => exact ⟨k + 1, q + nq, by omega, by go_num, by simp, HB⟩
              case measure => simp [intOf]; omega
            · have hb : (x.toList == y.toList) = false := by simpa using hxy
              have HN : Hid (model (comps base.toList) (comps p.toList) = ([], false)) := model_no HD1.out HD2.out (agree_not hlt hlen (by rw [← HX.out, ← HY.out]; exact hxy))
              go_wp2
              go_quiet (fail)
              go_wp2
              go_ret2
              exact ⟨[], false, rfl, HN.out, hb12.trans ⟨rfl, rfl, rfl, Nat.le_refl _, fun _ _ => rfl⟩⟩
          · have hkl : k = D1.length := by omega
            subst hkl
            have HY : Hid (model (comps base.toList) (comps p.toList) = (built D1.length D2 D2.length, true)) := model_yes HD1.out HD2.out (agree_all hlen HA.out)
            go_wp2
            go_loopw [9, 10] (fun v i wr => ∃ k : Nat, D1.length ≤ k ∧ k ≤ D2.length ∧ i = .int .i64 k ∧ wr.ownsRow w2.heap.size 5 1 v (built D1.length D2 k).length (byteVals (built D1.length D2 k)) ∧ Below w2.heap.size w2 wr)
              (fun _ i _ => D2.length - (intOf i).toNat)
            case atStart => exact ⟨D1.length, Nat.le_refl _, hlen, rfl, by rw [built_start]; exact World.ownsRow_lit (base := w2.heap.size) (e := 5) (size := 1) (w2.drewN q) #[.int .u8 47] 1 (Nat.le_refl _) (by decide) rfl, Below.alloc (B := w2.heap.size) (a := w2) (w := w2.drewN q) ⟨rfl, rfl, rfl, Nat.le_refl _, fun _ _ => rfl⟩ (Nat.le_refl _) _⟩
            case round =>
              obtain ⟨k, hk1, hk2, rfl, hown, hnx⟩ := hrel
              have hsz := hnx.size
              have hbl := built_le (n := D1.length) (k := k) HD2.out
              by_cases hlt : k < D2.length
              · have hbl' := built_le (n := D1.length) (k := k + 1) HD2.out
                have e2 : wr.cell? ⟨g2, k, none⟩ = some (.string (D2.getD k ByteArray.empty)) := (hnx.cell (p := ⟨g2, k, none⟩) hg2).trans (HC2.out k hlt)
                obtain ⟨y, hy⟩ : ∃ y, y = D2.getD k ByteArray.empty := ⟨_, rfl⟩
                rw [← hy] at e2
                by_cases hgt : D1.length < k
                · have hn := built_next hgt hlt
                  rw [← hy] at hn
                  have HN : Hid (built D1.length D2 (k + 1) = built D1.length D2 k ++ [47] ++ y.toList) := hn
                  have hys : (built D1.length D2 k).length + 1 + y.size ≤ p.size + 1 := by
                    rw [hn] at hbl'
                    simp only [List.length_append, List.length_cons, List.length_nil, toList_size] at hbl'
                    omega
                  clear hn hy hbl'
                  go_wp2_with (at_builtin; refine wpList_append_own _ rfl _ _ 30 rfl w2.heap.size 5 i0 (.int .u8 0) 1 1 Trym.underlying30 hi hz0 hz1 hz2 rfl (by decide) _ _ _ rfl (hown.alloc _) ⟨wr.heap.size, 0, none⟩ 1 1 [.int .u8 47] rfl rfl (cell_one_new _ _ _) ?g1 ?g2 ?g3 ?g4 ?_)
                  case g1 => intro u hu; simp at hu; subst hu; rfl
                  case g2 => unfold maxLen; omega
                  case g3 => omega
                  case g4 => simp; omega
                  intro v3 w3 hown3 hgrow3 _
                  have hb3 := (hnx.alloc (by omega) _).grown hgrow3 (by simp; omega) (fun g hg => (hown.lt g hg).1)
                  have e3 : w3.cell? ⟨g2, k, none⟩ = some (.string y) := (hb3.cell (p := ⟨g2, k, none⟩) hg2).trans ((hnx.cell (p := ⟨g2, k, none⟩) hg2).symm.trans e2)
                  have hsz3 := hb3.size
                  clear hown hgrow3 hnx e2
                  go_wp2_with (at_builtin; refine Lib.wpList_append_own_string _ rfl _ _ 30 9 rfl w2.heap.size 5 i0 Trym.underlying30 Trym.underlying9 hi hz0 hz1 hz2 _ _ _ rfl hown3 y rfl ?h1 ?h2 ?h3 ?_)
                  case h1 => unfold maxLen; omega
                  case h2 => omega
                  case h3 => omega
                  intro v4 w4 hown4 hgrow4 _
                  have hb4 := hb3.grown hgrow4 hsz3 (fun g hg => (hown3.lt g hg).1)
                  clear hown3 hgrow4 hb3
                  go_wp2
                  go_roundw
                  case rel => exact ⟨k + 1, by omega, by omega, by go_num, by rw [HN.out, byteVals_append, byteVals_append, List.length_append, List.length_append, toList_size, ← strCells_byteVals, List.append_assoc]; exact hown4, hb4⟩
                  case measure => simp [intOf]; omega
                · have hke : k = D1.length := by omega
                  subst hke
                  have hn := built_first hlt
                  rw [← hy] at hn
                  have HN : Hid (built D1.length D2 (D1.length + 1) = built D1.length D2 D1.length ++ y.toList) := hn
                  have hys : (built D1.length D2 D1.length).length + y.size ≤ p.size + 1 := by
                    rw [hn] at hbl'
                    simp only [List.length_append, toList_size] at hbl'
                    omega
                  clear hn hy hbl'
                  go_wp2_with (at_builtin; refine Lib.wpList_append_own_string _ rfl _ _ 30 9 rfl w2.heap.size 5 i0 Trym.underlying30 Trym.underlying9 hi hz0 hz1 hz2 _ _ _ rfl hown y rfl ?f1 ?f2 ?f3 ?_)
                  case f1 => unfold maxLen; omega
                  case f2 => omega
                  case f3 => omega
                  intro v' w3 hown' hgrow _
                  have hb3 := hnx.grown hgrow hsz (fun g hg => (hown.lt g hg).1)
                  clear hown hgrow hnx
                  go_wp2
                  go_roundw
                  case rel => exact ⟨D1.length + 1, by omega, by omega, by go_num, by rw [HN.out, byteVals_append, List.length_append, toList_size, ← strCells_byteVals]; exact hown', hb3⟩
                  case measure => simp [intOf]; omega
              · have hke : k = D2.length := by omega
                subst hke
                have hbb := hb12.trans (hnx.mono hb12.size)
                obtain ⟨L, hL⟩ : ∃ L, L = built D1.length D2 D2.length := ⟨_, rfl⟩
                rw [← hL] at hown
                have HL : Hid (L = built D1.length D2 D2.length) := hL
                have hpos : 0 < L.length := by rw [hL]; simp [built]
                clear hL
                rcases hown.2 with ⟨_, h⟩ | ⟨gl, cl, cur, rfl, _⟩
                · omega
                · have kc := run_convert_bytes_back (P := Trym.prog) wr 30 9 5 ⟨gl, 0, none⟩ cl L Trym.underlying30 Trym.underlying5 Trym.underlying9 (fun j hj => by
                    rw [Addr.add_lit, Nat.zero_add, hown.cellAt j (by omega)]
                    simp [byteVals, hj])
                  clear hown hnx
                  go_wp2
                  go_ret2
                  exact ⟨L, true, rfl, by rw [HL.out]; exact HY.out, hbb⟩
      · have HN : Hid (model (comps base.toList) (comps p.toList) = ([], false)) := model_no HD1.out HD2.out (agree_short (by omega))
        go_wp2
        go_ret2
        exact ⟨[], false, rfl, HN.out, hb12⟩

theorem bytesModel_any (a b : ByteArray) (w : World) (ha : a.size ≤ maxLen) (hb : b.size ≤ maxLen) :
    Calls Trym.prog 6 #[.string a, .string b] w fun e w' => (∃ r, e = .returned (.bool r)) ∧ w = w' := by
  unfold maxLen at ha hb
  go_enter Trym.func6, Trym.ntmps6
  go_wp2
  all_goals
    go_ret
    exact ⟨⟨_, rfl⟩, rfl⟩

theorem bytesModel_yes (a b : ByteArray) (w : World) (ha : a.size ≤ 65536) (hb : b.size ≤ 65536) :
    Calls Trym.prog 6 #[.string a, .string b] w fun e w' => e = .returned (.bool true) ∧ w = w' := by
  go_enter Trym.func6, Trym.ntmps6
  go_wp2
  go_ret
  exact ⟨rfl, rfl⟩

theorem large_false {a b : ByteArray} (h : ¬ (a.size ≤ 65536 ∧ b.size ≤ 65536)) : 65536 < (a.size : Int) ∨ (¬ 65536 < (a.size : Int) ∧ 65536 < (b.size : Int)) := by
  omega

theorem law_big (a b : ByteArray) (w : World) (ha : a.size ≤ maxLen) (hb : b.size ≤ maxLen) (h : ¬ (a.size ≤ 65536 ∧ b.size ≤ 65536)) :
    Calls Trym.prog 3 #[.string a, .string b] w fun e w' => e = .returned (.bool true) ∧ w = w' := by
  rcases large_false h with h1 | ⟨h1, h2⟩
  all_goals
    go_enter Trym.func3, Trym.ntmps3
    go_wp2_with (go_at_call 6; refine (bytesModel_any a b _ ha hb).mono ?_; rintro e w' ⟨⟨r, rfl⟩, rfl⟩)
    all_goals
      go_ret
      exact ⟨rfl, rfl⟩

theorem law_agrees {base p : ByteArray} {l : List UInt8} {b : Bool} (hb : sf base.toList = true) (hp : sf p.toList = true) (h : model (comps base.toList) (comps p.toList) = (l, b)) :
    rel base p = mk l ∧ isIn base p = b := by
  have e := wi_model hb hp
  rw [h] at e
  refine ⟨toList_inj ?_, ?_⟩
  · rw [rel_toList, e, mk_toList]
  · unfold isIn; rw [e]

set_option maxHeartbeats 1600000 in
theorem law_walk (a b : ByteArray) (w : World) (ha : a.size ≤ maxLen) (hb : b.size ≤ maxLen) :
    Calls Trym.prog 3 #[.string a, .string b] w fun e w' => e = .returned (.bool true) ∧ Below w.heap.size w w' := by
  by_cases h : a.size ≤ 65536 ∧ b.size ≤ 65536
  rotate_left
  · refine (law_big a b w ha hb h).mono ?_
    rintro e w' ⟨rfl, rfl⟩
    exact ⟨rfl, Below.refl _ _⟩
  obtain ⟨h1, h2⟩ := h
  have g1 : a.size ≤ 200000 := by omega
  have g2 : b.size ≤ 200000 := by omega
  cases sa : sf a.toList with
  | false =>
    go_enter Trym.func3, Trym.ntmps3
    go_wp2_with (first | (go_at_call 6; refine (bytesModel_yes a b _ h1 h2).mono ?_; rintro e w' ⟨rfl, rfl⟩) | (go_at_call 7; refine (slash_any _ _ (by assumption)).mono ?_; rintro e w' ⟨rfl, rfl⟩))
    go_ret
    exact ⟨rfl, Below.refl _ _⟩
  | true =>
  cases sb : sf b.toList with
  | false =>
    go_enter Trym.func3, Trym.ntmps3
    go_wp2_with (first | (go_at_call 6; refine (bytesModel_yes a b _ h1 h2).mono ?_; rintro e w' ⟨rfl, rfl⟩) | (go_at_call 7; refine (slash_any _ _ (by assumption)).mono ?_; rintro e w' ⟨rfl, rfl⟩))
    go_ret
    exact ⟨rfl, Below.refl _ _⟩
  | true =>
    go_enter Trym.func3, Trym.ntmps3
    go_wp2_with (first | (go_at_call 6; refine (bytesModel_yes a b _ h1 h2).mono ?_; rintro e w' ⟨rfl, rfl⟩) | (go_at_call 7; refine (slash_any _ _ (by assumption)).mono ?_; rintro e w' ⟨rfl, rfl⟩) | (go_at_call 8; refine (within_any _ _ _ (by assumption) (by assumption)).mono ?_; rintro e w' ⟨rfl, rfl⟩))
    refine (model_any a b _ g1 g2).mono ?_
    rintro e w1 ⟨l, bb, rfl, hm, hbel⟩
    obtain ⟨e1, e2⟩ := law_agrees sa sb hm
    clear hm
    rw [e1, e2]
    go_wp2
    go_ret
    exact ⟨rfl, hbel⟩

end Go.Proofs.Qxb6603298aMods
