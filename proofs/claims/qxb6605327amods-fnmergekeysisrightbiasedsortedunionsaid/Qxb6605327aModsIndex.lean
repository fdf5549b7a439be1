/-
  Seat b6605327aM: index entries in memory; ZZIndex (8), ZZReadIndex (11).
-/
import Derived.Test.Qxb6605327aModsBase
import Derived.Deep.RegionHeld3
namespace Go.Proofs.Qxb6605327aMods
open Go.RowKit Plain
set_option linter.unusedVariables false

theorem Trym.info52 : (Trym.prog.info? 52).map (fun i => (i.zero, i.size, i.bytes)) = some (some (.agg #[.string ByteArray.empty, .pointer none]), 2, 24) := by kernel_rfl

/-- Key, history block and tag of index entry r. -/
def ek (X : List (ByteArray × Nat × Int)) (r : Nat) : ByteArray := (X.getD r (ByteArray.empty, 0, 0)).1
def ep (X : List (ByteArray × Nat × Int)) (r : Nat) : Nat := (X.getD r (ByteArray.empty, 0, 0)).2.1
def et (X : List (ByteArray × Nat × Int)) (r : Nat) : Int := (X.getD r (ByteArray.empty, 0, 0)).2.2

/-- From block g, place o on lie the index entries X, two cells each. -/
structure IRow (w : World) (g o : Nat) (X : List (ByteArray × Nat × Int)) : Prop where
  lt : 0 < X.length → g < w.heap.size
  key : ∀ r, r < X.length → w.cell? ⟨g, o + r * 2, none⟩ = some (.string (ek X r))
  ptr : ∀ r, r < X.length → w.cell? ⟨g, o + r * 2 + 1, none⟩ = some (.pointer (some ⟨ep X r, 0, none⟩))
theorem IRow.below {w w' : World} {g o : Nat} {X : List (ByteArray × Nat × Int)} (h : IRow w g o X) (hb : Below w.heap.size w w') : IRow w' g o X :=
  ⟨fun h0 => Nat.lt_of_lt_of_le (h.lt h0) hb.size, fun r hr => (hb.cell (p := ⟨g, o + r * 2, none⟩) (h.lt (by omega))).trans (h.key r hr), fun r hr => (hb.cell (p := ⟨g, o + r * 2 + 1, none⟩) (h.lt (by omega))).trans (h.ptr r hr)⟩

/-- Block p is a history whose one version is stamped t. -/
def Hist (w : World) (lo p : Nat) (t : Int) : Prop :=
  ∃ v, lo ≤ p ∧ lo ≤ v ∧ p < w.heap.size ∧ v < w.heap.size ∧ w.cell? ⟨p, 0, none⟩ = some (.slice (some ⟨v, 0, none⟩) 1 1) ∧ w.cell? ⟨v, 0, none⟩ = some (.int .u64 t)
theorem Hist.keep {w w' : World} {lo p : Nat} {t : Int} (h : Hist w lo p t) (hb : ∀ k, lo ≤ k → k < w.heap.size → w'.heap[k]? = w.heap[k]?) (hs : w.heap.size ≤ w'.heap.size) : Hist w' lo p t := by
  obtain ⟨v, h1, h2, h3, h4, h5, h6⟩ := h
  exact ⟨v, h1, h2, by omega, by omega, (World.cell?_of_block (a := ⟨p, 0, none⟩) (hb p h1 h3)).trans h5, (World.cell?_of_block (a := ⟨v, 0, none⟩) (hb v h2 h4)).trans h6⟩
theorem Hist.below {w w' : World} {lo p : Nat} {t : Int} (h : Hist w lo p t) (hb : Below w.heap.size w w') : Hist w' lo p t := h.keep (fun k _ hk => hb.block k hk) hb.size
theorem Hist.low {w : World} {lo lo' p : Nat} {t : Int} (h : Hist w lo p t) (hl : lo' ≤ lo) : Hist w lo' p t := by
  obtain ⟨v, h1, h2, h3⟩ := h
  exact ⟨v, by omega, by omega, h3⟩

/-- A row of n elements of two cells, made and owned whole. -/
theorem own_block2 {w : World} {base e g n cap : Nat} {xs : List Value} (h : w.ownsRow base e 2 (.slice (some ⟨g, 0, none⟩) n cap) n xs) (hc : cap = n) : w.heap[g]? = some (.cells xs.toArray e (0, 0)) := by
  rcases h.2 with ⟨h', _⟩ | ⟨g', cap', cur, h', _, hg, _, _, hcs, ht⟩
  · simp at h'
  · simp only [Value.slice.injEq, Option.some.injEq, Addr.mk.injEq, and_true, true_and] at h'
    obtain ⟨rfl, rfl⟩ := h'
    rw [hg, ← ht, List.take_of_length_le (by rw [Array.length_toList, hcs, hc]; exact Nat.le_refl _)]

/-- What ZZIndex has laid ahead of round k, in block g. -/
structure Laid (wr : World) (g n k : Nat) (fk : Nat → ByteArray) (ft : Nat → Int) (X : List (ByteArray × Nat × Int)) : Prop where
  len : X.length = k
  same : ∀ r, r < k → ek X r = fk r ∧ et X r = ft r
  block : ∃ cur : Array Value, wr.heap[g]? = some (.cells cur 52 (0, 0)) ∧ cur.size = n * 2 ∧ ∀ r, r < k → cur[r * 2]? = some (.string (ek X r)) ∧ cur[r * 2 + 1]? = some (.pointer (some ⟨ep X r, 0, none⟩))
  hist : ∀ r, r < k → Hist wr (g + 1) (ep X r) (et X r)

theorem keepS {wr : World} {a p1 p2 : Addr} {u v1 v2 : Value} {o1 o2 : Obj} (h : wr.cell? a = some u) (h1 : p1.block ≠ a.block) (h2 : p2.block ≠ a.block) : ((((wr.setCell p1 v1).setCell p2 v2).alloc o1).alloc o2).drew.cell? a = some u := by
  have e1 : ((wr.setCell p1 v1).setCell p2 v2).cell? a = some u := by rw [World.cell?_setCell_far _ _ _ _ h2, World.cell?_setCell_far _ _ _ _ h1]; exact h
  have hlt := World.block_lt_of_cell? _ _ e1
  show ((((wr.setCell p1 v1).setCell p2 v2).alloc o1).alloc o2).cell? a = some u
  rw [World.cell?_alloc_lt _ _ _ (by simp at hlt ⊢; omega), World.cell?_alloc_lt _ _ _ hlt]
  exact e1

theorem ek_old {X : List (ByteArray × Nat × Int)} {x : ByteArray × Nat × Int} {r : Nat} (h : r < X.length) : ek (X ++ [x]) r = ek X r ∧ ep (X ++ [x]) r = ep X r ∧ et (X ++ [x]) r = et X r := by
  simp [ek, ep, et, List.getD, List.getElem?_append_left h]
theorem ek_new {X : List (ByteArray × Nat × Int)} {x : ByteArray × Nat × Int} {r : Nat} (h : r = X.length) : ek (X ++ [x]) r = x.1 ∧ ep (X ++ [x]) r = x.2.1 ∧ et (X ++ [x]) r = x.2.2 := by
  subst h
  simp [ek, ep, et, List.getD]

/-- The world behind one round of ZZIndex. -/
abbrev after (wr : World) (g k : Nat) (s : ByteArray) (t : Int) : World :=
  ((((wr.setCell ⟨g, k * 2, none⟩ (.string s)).setCell ⟨g, k * 2 + 1, none⟩ (.pointer (some ⟨wr.heap.size + 1, 0, none⟩))).alloc (.cells #[.int .u64 t, .slice none 0 0, .bool false] 47)).alloc (.cells #[.slice (some ⟨wr.heap.size, 0, none⟩) 1 1] 50)).drew

theorem after_heap (wr : World) (g k : Nat) (s : ByteArray) (t : Int) (j : Nat) (hj : j ≠ g) (hl : j < wr.heap.size) : (after wr g k s t).heap[j]? = wr.heap[j]? := by
  show ((((wr.setCell ⟨g, k * 2, none⟩ (.string s)).setCell ⟨g, k * 2 + 1, none⟩ (.pointer (some ⟨wr.heap.size + 1, 0, none⟩))).alloc _).alloc _).heap[j]? = _
  rw [Below.heap_alloc _ _ _ (by simp; omega), Below.heap_alloc _ _ _ (by simp; omega), heap_setCell_other _ _ _ _ (by exact hj), heap_setCell_other _ _ _ _ (by exact hj)]
theorem after_size (wr : World) (g k : Nat) (s : ByteArray) (t : Int) : (after wr g k s t).heap.size = wr.heap.size + 2 := by simp [after]

theorem two_new_a (v : World) (o : Obj) (x : Value) {H : Nat} (h : v.heap.size = H) : ((v.alloc o).alloc (.cells #[x] 50)).drew.cell? ⟨H + 1, 0, none⟩ = some x := by
  have hs : (v.alloc o).heap.size = H + 1 := by simp [h]
  have := heap_alloc_new (v.alloc o) (.cells #[x] 50)
  rw [hs] at this
  show ((v.alloc o).alloc (.cells #[x] 50)).cell? ⟨H + 1, 0, none⟩ = some x
  rw [cell_of_row _ (H + 1) 0 _ 50 (0, 0) this]; rfl
theorem two_new_b (v : World) (x y z : Value) {o : Obj} {H : Nat} (h : v.heap.size = H) : ((v.alloc (.cells #[x, y, z] 47)).alloc o).drew.cell? ⟨H, 0, none⟩ = some x := by
  have := heap_alloc_new v (.cells #[x, y, z] 47)
  rw [h] at this
  show ((v.alloc (.cells #[x, y, z] 47)).alloc o).cell? ⟨H, 0, none⟩ = some x
  rw [World.cell?_alloc_lt _ _ _ (by simp [h]), cell_of_row _ H 0 _ 47 (0, 0) this]; rfl

theorem Laid.step {wr : World} {g n k : Nat} {fk : Nat → ByteArray} {ft : Nat → Int} {X : List (ByteArray × Nat × Int)} (h : Laid wr g n k fk ft X) (hk : k < n) :
    Laid (after wr g k (fk k) (ft k)) g n (k + 1) fk ft (X ++ [(fk k, wr.heap.size + 1, ft k)]) := by
  obtain ⟨cur, hcur, hcs, hcc⟩ := h.block
  have hgl : g < wr.heap.size := (Array.getElem?_eq_some_iff.1 hcur).1
  have hl := h.len
  have hg : (after wr g k (fk k) (ft k)).heap[g]? = some (.cells ((cur.setIfInBounds (k * 2) (.string (fk k))).setIfInBounds (k * 2 + 1) (.pointer (some ⟨wr.heap.size + 1, 0, none⟩))) 52 (0, 0)) := by
    show ((((wr.setCell ⟨g, k * 2, none⟩ (.string (fk k))).setCell ⟨g, k * 2 + 1, none⟩ (.pointer (some ⟨wr.heap.size + 1, 0, none⟩))).alloc _).alloc _).heap[g]? = _
    rw [Below.heap_alloc _ _ _ (by simp; omega), Below.heap_alloc _ _ _ (by simp; omega)]
    exact heap_setCell_same _ g _ _ 52 _ (heap_setCell_same wr g _ cur 52 _ hcur)
  refine ⟨by simp [hl], fun r hr => ?_, ⟨_, hg, by simpa using hcs, fun r hr => ?_⟩, fun r hr => ?_⟩
  · by_cases e : r < k
    · rw [(ek_old (by omega)).1, (ek_old (by omega)).2.2]; exact h.same r e
    · have : r = k := by omega
      subst this
      rw [(ek_new hl.symm).1, (ek_new hl.symm).2.2]; exact ⟨rfl, rfl⟩
  · by_cases e : r < k
    · rw [(ek_old (by omega)).1, (ek_old (by omega)).2.1, Array.getElem?_setIfInBounds_ne (by omega), Array.getElem?_setIfInBounds_ne (by omega), Array.getElem?_setIfInBounds_ne (by omega), Array.getElem?_setIfInBounds_ne (by omega)]
      exact hcc r e
    · have : r = k := by omega
      subst this
      rw [(ek_new hl.symm).1, (ek_new hl.symm).2.1]
      constructor
      · rw [Array.getElem?_setIfInBounds_ne (by omega), Array.getElem?_setIfInBounds_self_of_lt (by omega)]
      · rw [Array.getElem?_setIfInBounds_self_of_lt (by simp; omega)]
  · by_cases e : r < k
    · rw [(ek_old (by omega)).2.1, (ek_old (by omega)).2.2]
      exact (h.hist r e).keep (fun j hj hjl => after_heap wr g k _ _ j (by omega) hjl) (by rw [after_size]; omega)
    · have : r = k := by omega
      subst this
      rw [(ek_new hl.symm).2.1, (ek_new hl.symm).2.2]
      refine ⟨wr.heap.size, by simp; omega, by omega, by rw [after_size]; simp, by rw [after_size]; omega, ?_, ?_⟩
      · exact two_new_a ((wr.setCell ⟨g, r * 2, none⟩ (.string (fk r))).setCell ⟨g, r * 2 + 1, none⟩ (.pointer (some ⟨wr.heap.size + 1, 0, none⟩))) _ _ (by simp)
      · exact two_new_b ((wr.setCell ⟨g, r * 2, none⟩ (.string (fk r))).setCell ⟨g, r * 2 + 1, none⟩ (.pointer (some ⟨wr.heap.size + 1, 0, none⟩))) _ _ _ (by simp)

theorem after_below {w wr : World} {g k : Nat} {s : ByteArray} {t : Int} {B : Nat} (h : Below B w wr) (hB : B ≤ g) (hg : g < wr.heap.size) : Below B w (after wr g k s t) :=
  h.trans ⟨rfl, rfl, rfl, by rw [after_size]; omega, fun j hj => after_heap wr g k s t j (by omega) (by omega)⟩

set_option maxHeartbeats 1600000 in
set_option maxRecDepth 1000000 in
theorem index_any (gk gt n ck ct : Nat) (fk : Nat → ByteArray) (ft : Nat → Int) (w : World) (hk : StrRow w gk n fk) (ht : TagRow w gt n ft) (hn : n ≤ 65536) :
    Calls Trym.prog 8 #[.slice (some ⟨gk, 0, none⟩) n ck, .slice (some ⟨gt, 0, none⟩) n ct] w fun e w' => ∃ X, e = .returned (.slice (some ⟨w.heap.size, 0, none⟩) n n) ∧ Laid w' w.heap.size n n fk ft X ∧ Below w.heap.size w w' := by
  obtain ⟨i0, hi, hz0, hz1, hz2⟩ := info_parts Trym.info52
  have HK : Hid (StrRow w gk n fk) := hk
  have HT : Hid (TagRow w gt n ft) := ht
  clear hk ht
  go_enter Trym.func8, Trym.ntmps8
  go_wp2_with (at_make; refine wpList_make_full _ rfl _ _ 26 rfl w.heap.size 52 i0 (.agg #[.string ByteArray.empty, .pointer none]) 2 Trym.underlying26 hi hz0 hz1 _ _ _ _ n rfl rfl rfl rfl ?m1 ?m2 ?m3 ?_)
  case m1 => rw [hz2]; omega
  case m2 => unfold maxLen; omega
  case m3 => exact Nat.le_refl _
  intro w1 hown1 hgrow1
  have hb1 : Below w.heap.size w w1 := (Below.refl _ _).grown hgrow1 (Nat.le_refl _) (fun k hk => by cases hk)
  have hxs := hown1.1
  have hblk := own_block2 hown1 rfl
  have H1 : Hid (Laid w1 w.heap.size n 0 fk ft []) := ⟨rfl, fun r hr => absurd hr (by omega), ⟨_, hblk, by rw [List.size_toArray, hxs], fun r hr => absurd hr (by omega)⟩, fun r hr => absurd hr (by omega)⟩
  clear hown1 hgrow1 hxs hblk
  go_wp2
  go_loopw [7] (fun i wr => ∃ (k : Nat) (X : List (ByteArray × Nat × Int)), k ≤ n ∧ i = .int .i64 k ∧ Below w.heap.size w wr ∧ Hid (Laid wr w.heap.size n k fk ft X)) (fun i _ => n - (intOf i).toNat)
  case atStart => exact ⟨0, [], Nat.zero_le _, rfl, hb1, H1⟩
  case round =>
    obtain ⟨k, X, hk, rfl, hnx, HL⟩ := hrel
    by_cases hlt : k < n
    · have c1 := (hnx.cell (p := ⟨gk, k, none⟩) HK.out.lt).trans (HK.out.cell k hlt)
      have c2 := (hnx.cell (p := ⟨gt, k, none⟩) HT.out.lt).trans (HT.out.cell k hlt)
      have i1 : (0 : Int) ≤ (k : Int) := by omega
      have i2 : (k : Int) < (n : Int) := by omega
      obtain ⟨cur, hcur, hcs, hcc⟩ := HL.out.block
      have hgl : w.heap.size < wr.heap.size := (Array.getElem?_eq_some_iff.1 hcur).1
      obtain ⟨x0, hx0, hf0⟩ : ∃ x, wr.cell? ⟨w.heap.size, k * 2, none⟩ = some x ∧ wr.frozen? ⟨w.heap.size, k * 2, none⟩ = false := ⟨cur[k * 2]'(by omega), by rw [cell_of_row wr w.heap.size (k * 2) cur 52 (0, 0) hcur]; simp, frozen_of_row wr w.heap.size _ cur 52 hcur⟩
      obtain ⟨x1, hx1, hf1⟩ : ∃ x, wr.cell? ⟨w.heap.size, k * 2 + 1, none⟩ = some x ∧ wr.frozen? ⟨w.heap.size, k * 2 + 1, none⟩ = false := ⟨cur[k * 2 + 1]'(by omega), by rw [cell_of_row wr w.heap.size (k * 2 + 1) cur 52 (0, 0) hcur]; simp, frozen_of_row wr w.heap.size _ cur 52 hcur⟩
      have HU : Hid (wr.heap[w.heap.size]? = some (.cells cur 52 (0, 0))) := hcur
      clear hcur hcc
      have ne1 := World.new_ne wr _ c1
      have ne2 := World.new_ne wr _ c2
      have ne3 := World.new_ne wr _ hx0
      have ne4 := World.new_ne wr _ hx1
      have fa1 : w.heap.size ≠ gk := Nat.ne_of_gt HK.out.lt
      have fa2 : w.heap.size ≠ gt := Nat.ne_of_gt HT.out.lt
      have fa3 : gk ≠ w.heap.size := Nat.ne_of_lt HK.out.lt
      have fa4 : gt ≠ w.heap.size := Nat.ne_of_lt HT.out.lt
      have lg1 : gk < wr.heap.size := World.block_lt_of_cell? wr _ c1
      have lg2 : gt < wr.heap.size := World.block_lt_of_cell? wr _ c2
      go_wp2_with fail
      go_region_held3 (fun w' => w'.cell? ⟨gk, k, none⟩ = some (.string (fk k)) ∧ w'.cell? ⟨gt, k, none⟩ = some (.int .u64 (ft k))) (first | (go_keep; done) | (exact ⟨keepS c1 fa1 fa1, keepS c2 fa2 fa2⟩)) (fail)
      have HS : Hid (Laid (after wr w.heap.size k (fk k) (ft k)) w.heap.size n (k + 1) fk ft (X ++ [(fk k, wr.heap.size + 1, ft k)])) := HL.out.step hlt
      have hbA := after_below (k := k) (s := fk k) (t := ft k) hnx (Nat.le_refl _) hgl
      go_wp2
      go_roundw
      case rel => exact ⟨k + 1, X ++ [(fk k, wr.heap.size + 1, ft k)], by omega, by go_num, hbA, HS⟩
      case measure => simp [intOf]; omega
    · have hkn : k = n := by omega
      subst hkn
      go_wp2
      go_ret
      exact ⟨X, rfl, HL.out, hnx⟩

end Go.Proofs.Qxb6605327aMods
