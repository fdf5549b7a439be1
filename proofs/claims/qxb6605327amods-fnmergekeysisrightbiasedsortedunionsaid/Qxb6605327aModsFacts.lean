/-
  Seat b6605327aM: what the two laws need of the merged entries, with no Go in sight but the layout's names.
-/
import Derived.Test.Qxb6605327aModsSearch
import Derived.Test.Qxb6605327aModsMerge
import Derived.Test.Qxb6605327aModsRead
namespace Go.Proofs.Qxb6605327aMods
open Go.RowKit Plain
set_option linter.unusedVariables false

theorem ent_at {X : List (ByteArray × Nat × Int)} {r : Nat} (h : r < X.length) : X[r] = (ek X r, ep X r, et X r) := by
  have e : (X.getD r (ByteArray.empty, 0, 0)) = X[r] := by simp [List.getD, h]
  rw [ek, ep, et, e]
theorem mem_index {X : List (ByteArray × Nat × Int)} {k : ByteArray} {p : Nat × Int} (h : (k, p) ∈ X) : ∃ r, r < X.length ∧ ek X r = k ∧ ep X r = p.1 ∧ et X r = p.2 := by
  obtain ⟨r, hr, e⟩ := List.getElem_of_mem h
  rw [ent_at hr] at e
  simp only [Prod.mk.injEq] at e
  exact ⟨r, hr, e.1, by rw [← e.2], by rw [← e.2]⟩
theorem index_mem {X : List (ByteArray × Nat × Int)} {r : Nat} (h : r < X.length) : (ek X r, ep X r, et X r) ∈ X := by rw [← ent_at h]; exact List.getElem_mem _

theorem srt_of_inc {X : List (ByteArray × Nat × Int)} (h : Inc klt (ek X) X.length) : Srt klt X := by
  unfold Srt
  rw [List.pairwise_iff_getElem]
  intro i j hi hj hij
  rw [ent_at hi, ent_at hj]
  exact h i j hij hj
theorem inc_of_srt {X : List (ByteArray × Nat × Int)} (h : Srt klt X) : Inc klt (ek X) X.length := by
  intro i j hij hj
  have := List.pairwise_iff_getElem.1 h i j (by omega) hj hij
  rw [ent_at (by omega), ent_at hj] at this
  exact this

/-- X is the index of the entries E, laid in block g. -/
structure Idx (w : World) (g : Nat) (E : List (ByteArray × Int)) (X : List (ByteArray × Nat × Int)) : Prop where
  row : IRow w g 0 X
  hist : ∀ r, r < X.length → Hist w 0 (ep X r) (et X r)
  len : X.length = E.length
  same : ∀ r, r < X.length → ek X r = ky E r ∧ et X r = tg E r
theorem Idx.below {w w' : World} {g : Nat} {E : List (ByteArray × Int)} {X : List (ByteArray × Nat × Int)} (h : Idx w g E X) (hb : Below w.heap.size w w') : Idx w' g E X :=
  ⟨h.row.below hb, fun r hr => (h.hist r hr).below hb, h.len, h.same⟩
theorem Idx.of_laid {w : World} {g : Nat} {E : List (ByteArray × Int)} {X : List (ByteArray × Nat × Int)} (h : Laid w g E.length E.length (ky E) (tg E) X) : Idx w g E X := by
  obtain ⟨cur, hcur, hcs, hcc⟩ := h.block
  have hl := h.len
  refine ⟨⟨fun _ => (Array.getElem?_eq_some_iff.1 hcur).1, fun r hr => ?_, fun r hr => ?_⟩, fun r hr => (h.hist r (by omega)).low (Nat.zero_le _), hl, fun r hr => h.same r (by omega)⟩
  · rw [Nat.zero_add, cell_of_row w g _ cur 52 (0, 0) hcur]; exact (hcc r (by omega)).1
  · rw [Nat.zero_add, cell_of_row w g _ cur 52 (0, 0) hcur]; exact (hcc r (by omega)).2
theorem Idx.srt {w : World} {g : Nat} {E : List (ByteArray × Int)} {X : List (ByteArray × Nat × Int)} (h : Idx w g E X) (hi : Inc klt (ky E) E.length) : Srt klt X := by
  refine srt_of_inc fun i j hij hj => ?_
  rw [(h.same i (by omega)).1, (h.same j hj).1]
  exact hi i j hij (by rw [← h.len]; exact hj)

/-- A history stays with its entry through a merge. -/
theorem hist_merge {w : World} {X Y : List (ByteArray × Nat × Int)} (hX : ∀ r, r < X.length → Hist w 0 (ep X r) (et X r)) (hY : ∀ r, r < Y.length → Hist w 0 (ep Y r) (et Y r)) : ∀ r, r < (merge klt X Y).length → Hist w 0 (ep (merge klt X Y) r) (et (merge klt X Y) r) := by
  intro r hr
  rcases mem_merge _ X Y _ (Nat.le_refl _) (index_mem hr) with h | h
  · obtain ⟨q, hq, _, e2, e3⟩ := mem_index h
    have := hX q hq
    rw [e2, e3] at this
    exact this
  · obtain ⟨q, hq, _, e2, e3⟩ := mem_index h
    have := hY q hq
    rw [e2, e3] at this
    exact this

theorem look_index {X : List (ByteArray × Nat × Int)} (hs : Srt klt X) {r : Nat} (h : r < X.length) : Plain.look (ek X r) X = some (ep X r, et X r) := look_of_mem kord hs (index_mem h)
theorem index_look {X : List (ByteArray × Nat × Int)} {k : ByteArray} {p : Nat × Int} (h : Plain.look k X = some p) : ∃ r, r < X.length ∧ ek X r = k ∧ ep X r = p.1 ∧ et X r = p.2 := mem_index (look_mem h)

/-- A key of either side is in the merge; a key of the right side bears its own payload there. -/
theorem merge_has_right {X Y : List (ByteArray × Nat × Int)} (hX : Srt klt X) (hY : Srt klt Y) {r : Nat} (h : r < Y.length) : ∃ q, q < (merge klt X Y).length ∧ ek (merge klt X Y) q = ek Y r ∧ et (merge klt X Y) q = et Y r := by
  have := merge_look kord hX hY (ek Y r)
  rw [look_index hY h] at this
  obtain ⟨q, hq, e1, _, e3⟩ := index_look this
  exact ⟨q, hq, e1, e3⟩
theorem merge_has_left {X Y : List (ByteArray × Nat × Int)} (hX : Srt klt X) (hY : Srt klt Y) {r : Nat} (h : r < X.length) : ∃ q, q < (merge klt X Y).length ∧ ek (merge klt X Y) q = ek X r := by
  have := merge_look kord hX hY (ek X r)
  cases hl : Plain.look (ek X r) Y with
  | some p =>
    rw [hl] at this
    obtain ⟨q, hq, e1, _⟩ := index_look this
    exact ⟨q, hq, e1⟩
  | none =>
    rw [hl, look_index hX h] at this
    obtain ⟨q, hq, e1, _⟩ := index_look this
    exact ⟨q, hq, e1⟩

/-- Each entry of the merge comes from the right side, or, where the right side has not its key, from the left. -/
theorem merge_from {X Y : List (ByteArray × Nat × Int)} (hX : Srt klt X) (hY : Srt klt Y) {r : Nat} (h : r < (merge klt X Y).length) :
    (∃ q, q < Y.length ∧ ek Y q = ek (merge klt X Y) r ∧ et Y q = et (merge klt X Y) r) ∨
    ((∀ q, q < Y.length → ¬ ek Y q = ek (merge klt X Y) r) ∧ ∃ q, q < X.length ∧ ek X q = ek (merge klt X Y) r ∧ et X q = et (merge klt X Y) r) := by
  have hm := merge_look kord hX hY (ek (merge klt X Y) r)
  rw [look_index (merge_srt kord hX hY) h] at hm
  cases hl : Plain.look (ek (merge klt X Y) r) Y with
  | some p =>
    rw [hl] at hm
    obtain ⟨q, hq, e1, _, e3⟩ := index_look hl
    refine .inl ⟨q, hq, e1, ?_⟩
    rw [e3]
    simp only [Option.some.injEq] at hm
    rw [← hm]
  | none =>
    rw [hl] at hm
    obtain ⟨q, hq, e1, _, e3⟩ := index_look hm.symm
    refine .inr ⟨fun q' hq' e => ?_, q, hq, e1, e3⟩
    have := index_mem hq'
    rw [e] at this
    exact look_none hl _ this

end Go.Proofs.Qxb6605327aMods
