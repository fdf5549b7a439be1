/-
  Seat b6605327aM: ZZReadIndex (11).
-/
import Derived.Test.Qxb6605327aModsIndex
namespace Go.Proofs.Qxb6605327aMods
open Go.RowKit Plain
set_option linter.unusedVariables false

/-- The two rows that ZZReadIndex fills, ahead of round k. -/
structure RRel (wr : World) (gk gt n k : Nat) (X : List (ByteArray × Nat × Int)) : Prop where
  keys : ∃ cur : Array Value, wr.heap[gk]? = some (.cells cur 9 (0, 0)) ∧ cur.size = n ∧ ∀ r, r < k → cur[r]? = some (.string (ek X r))
  tags : ∃ cur : Array Value, wr.heap[gt]? = some (.cells cur 38 (0, 0)) ∧ cur.size = n ∧ ∀ r, r < k → cur[r]? = some (.int .u64 (et X r))

theorem RRel.step {wr : World} {gk gt n k : Nat} {X : List (ByteArray × Nat × Int)} (h : RRel wr gk gt n k X) (hk : k < n) (hne : gk ≠ gt) :
    RRel ((wr.setCell ⟨gk, k, none⟩ (.string (ek X k))).setCell ⟨gt, k, none⟩ (.int .u64 (et X k))) gk gt n (k + 1) X := by
  obtain ⟨ck, hck, hsk, hrk⟩ := h.keys
  obtain ⟨ct, hct, hst, hrt⟩ := h.tags
  refine ⟨⟨ck.setIfInBounds k (.string (ek X k)), ?_, by simpa using hsk, fun r hr => ?_⟩, ⟨ct.setIfInBounds k (.int .u64 (et X k)), ?_, by simpa using hst, fun r hr => ?_⟩⟩
  · rw [heap_setCell_other _ _ _ _ (by exact hne)]
    exact heap_setCell_same wr gk k ck 9 _ hck
  · by_cases e : r = k
    · subst e; simp [hsk, hk]
    · rw [Array.getElem?_setIfInBounds_ne (by omega)]; exact hrk r (by omega)
  · refine heap_setCell_same _ gt k ct 38 _ ?_
    rw [heap_setCell_other _ _ _ _ (by exact fun e => hne e.symm)]
    exact hct
  · by_cases e : r = k
    · subst e; simp [hst, hk]
    · rw [Array.getElem?_setIfInBounds_ne (by omega)]; exact hrt r (by omega)

set_option maxHeartbeats 1600000 in
set_option maxRecDepth 1000000 in
theorem read_any (g c lo : Nat) (X : List (ByteArray × Nat × Int)) (w : World) (hX : IRow w g 0 X) (hH : ∀ r, r < X.length → Hist w lo (ep X r) (et X r)) (hn : X.length ≤ 200000) :
    Calls Trym.prog 11 #[.slice (some ⟨g, 0, none⟩) X.length c] w fun e w' => ∃ gk gt, e = .returned (.tuple #[.slice (some ⟨gk, 0, none⟩) X.length X.length, .slice (some ⟨gt, 0, none⟩) X.length X.length]) ∧ StrRow w' gk X.length (ek X) ∧ TagRow w' gt X.length (et X) ∧ Below w.heap.size w w' := by
  obtain ⟨i9, hi9, hz9, hs9, hb9⟩ := info_parts Trym.info9
  obtain ⟨i8, hi8, hz8, hs8, hb8⟩ := info_parts Trym.info38
  have HX : Hid (IRow w g 0 X) := hX
  have HH : Hid (∀ r, r < X.length → Hist w lo (ep X r) (et X r)) := hH
  clear hX hH
  go_enter Trym.func11, Trym.ntmps11
  go_wp2_with (at_make; refine wpList_make_full _ rfl _ _ 28 rfl w.heap.size 9 i9 (.string ByteArray.empty) 1 Trym.underlying28 hi9 hz9 hs9 _ _ _ _ X.length rfl rfl rfl rfl ?m1 ?m2 ?m3 ?_)
  case m1 => rw [hb9]; omega
  case m2 => unfold maxLen; omega
  case m3 => exact Nat.le_refl _
  intro w1 hown1 hgrow1
  have hb1 : Below w.heap.size w w1 := (Below.refl _ _).grown hgrow1 (Nat.le_refl _) (fun k hk => by cases hk)
  have hx1 := hown1.1
  have hk1 := own_block hown1 rfl
  have hlt1 : w.heap.size < w1.heap.size := (Array.getElem?_eq_some_iff.1 hk1).1
  have HK1 : Hid (∃ cur : Array Value, w1.heap[w.heap.size]? = some (.cells cur 9 (0, 0)) ∧ cur.size = X.length) := ⟨_, hk1, by rw [List.size_toArray, hx1]; omega⟩
  clear hown1 hgrow1 hx1 hk1
  go_wp2_with (at_make; refine wpList_make_full _ rfl _ _ 30 rfl w1.heap.size 38 i8 (.int .u64 0) 1 Trym.underlying30 hi8 hz8 hs8 _ _ _ _ X.length rfl rfl rfl rfl ?p1 ?p2 ?p3 ?_)
  case p1 => rw [hb8]; omega
  case p2 => unfold maxLen; omega
  case p3 => exact Nat.le_refl _
  intro w2 hown2 hgrow2
  have hb2' : Below w1.heap.size w1 w2 := (Below.refl _ _).grown hgrow2 (Nat.le_refl _) (fun k hk => by cases hk)
  have hb2 : Below w.heap.size w w2 := hb1.trans (hb2'.mono hb1.size)
  have hx2 := hown2.1
  have hk2 := own_block hown2 rfl
  have H2 : Hid (RRel w2 w.heap.size w1.heap.size X.length 0 X) := by
    obtain ⟨cur, hc, hs⟩ := HK1.out
    exact ⟨⟨cur, (hb2'.block _ hlt1).trans hc, hs, fun r hr => absurd hr (by omega)⟩, ⟨_, hk2, by rw [List.size_toArray, hx2]; omega, fun r hr => absurd hr (by omega)⟩⟩
  clear hown2 hgrow2 hx2 hk2 HK1 hb2' hb1
  go_wp2
  go_loopw [6] (fun i wr => ∃ k : Nat, k ≤ X.length ∧ i = .int .i64 k ∧ Below w.heap.size w wr ∧ Hid (RRel wr w.heap.size w1.heap.size X.length k X)) (fun i _ => X.length - (intOf i).toNat)
  case atStart => exact ⟨0, Nat.zero_le _, rfl, hb2, H2⟩
  case round =>
    obtain ⟨k, hk, rfl, hnx, HR⟩ := hrel
    by_cases hlt : k < X.length
    · have lg := HX.out.lt (by omega)
      obtain ⟨v, _, _, hp, hv, hcp, hcv⟩ := HH.out k hlt
      have x1 : wr.cell? ⟨g, k * 2, none⟩ = some (.string (ek X k)) := by have := (hnx.cell (p := ⟨g, 0 + k * 2, none⟩) lg).trans (HX.out.key k hlt); simpa using this
      have x2 : wr.cell? ⟨g, k * 2 + 1, none⟩ = some (.pointer (some ⟨ep X k, 0, none⟩)) := by have := (hnx.cell (p := ⟨g, 0 + k * 2 + 1, none⟩) lg).trans (HX.out.ptr k hlt); simpa using this
      have x3 := (hnx.cell (p := ⟨ep X k, 0, none⟩) hp).trans hcp
      have x4 := (hnx.cell (p := ⟨v, 0, none⟩) hv).trans hcv
      obtain ⟨ck, hck, hsk, _⟩ := HR.out.keys
      obtain ⟨ct, hct, hst, _⟩ := HR.out.tags
      obtain ⟨y1, hy1, hf1⟩ : ∃ x, wr.cell? ⟨w.heap.size, k, none⟩ = some x ∧ wr.frozen? ⟨w.heap.size, k, none⟩ = false := ⟨ck[k], by rw [cell_of_row wr w.heap.size k ck 9 (0, 0) hck]; simp, frozen_of_row wr w.heap.size k ck 9 hck⟩
      obtain ⟨y2, hy2, hf2⟩ : ∃ x, wr.cell? ⟨w1.heap.size, k, none⟩ = some x ∧ wr.frozen? ⟨w1.heap.size, k, none⟩ = false := ⟨ct[k], by rw [cell_of_row wr w1.heap.size k ct 38 (0, 0) hct]; simp, frozen_of_row wr w1.heap.size k ct 38 hct⟩
      have z2 : (wr.setCell ⟨w.heap.size, k, none⟩ (.string (ek X k))).cell? ⟨g, k * 2 + 1, none⟩ = some (.pointer (some ⟨ep X k, 0, none⟩)) := by rw [World.cell?_setCell_far _ _ _ _ (by show w.heap.size ≠ g; omega)]; exact x2
      have z3 : (wr.setCell ⟨w.heap.size, k, none⟩ (.string (ek X k))).cell? ⟨ep X k, 0, none⟩ = some (.slice (some ⟨v, 0, none⟩) 1 1) := by rw [World.cell?_setCell_far _ _ _ _ (by show w.heap.size ≠ ep X k; omega)]; exact x3
      have z4 : (wr.setCell ⟨w.heap.size, k, none⟩ (.string (ek X k))).cell? ⟨v, 0, none⟩ = some (.int .u64 (et X k)) := by rw [World.cell?_setCell_far _ _ _ _ (by show w.heap.size ≠ v; omega)]; exact x4
      have z5 : (wr.setCell ⟨w.heap.size, k, none⟩ (.string (ek X k))).cell? ⟨w1.heap.size, k, none⟩ = some y2 := by rw [World.cell?_setCell_far _ _ _ _ (by show w.heap.size ≠ w1.heap.size; omega)]; exact hy2
      have HS : Hid (RRel ((wr.setCell ⟨w.heap.size, k, none⟩ (.string (ek X k))).setCell ⟨w1.heap.size, k, none⟩ (.int .u64 (et X k))) w.heap.size w1.heap.size X.length (k + 1) X) := HR.out.step hlt (by omega)
      have hbS := (hnx.setCell (p := ⟨w.heap.size, k, none⟩) (Nat.le_refl _) (.string (ek X k))).setCell (p := ⟨w1.heap.size, k, none⟩) (by show w.heap.size ≤ w1.heap.size; omega) (.int .u64 (et X k))
      clear hck hct hcp hcv
      go_wp2
      go_roundw
      case rel => exact ⟨k + 1, by omega, by go_num, hbS, HS⟩
      case measure => simp [intOf]; omega
    · have hkn : k = X.length := by omega
      subst hkn
      go_wp2
      go_ret2
      obtain ⟨ck, hck, hsk, hrk⟩ := HR.out.keys
      obtain ⟨ct, hct, hst, hrt⟩ := HR.out.tags
      refine ⟨w.heap.size, w1.heap.size, rfl, ⟨(Array.getElem?_eq_some_iff.1 hck).1, fun r hr => ?_⟩, ⟨(Array.getElem?_eq_some_iff.1 hct).1, fun r hr => ?_⟩, hnx⟩
      · rw [cell_of_row wr w.heap.size r ck 9 (0, 0) hck]; exact hrk r hr
      · rw [cell_of_row wr w1.heap.size r ct 38 (0, 0) hct]; exact hrt r hr

end Go.Proofs.Qxb6605327aMods
