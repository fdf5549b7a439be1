/-
  Seat b6604299aM: zzBytes (4), zzB1CloneBytesList (5), zzB1CloneBools (6).
-/
import Derived.Test.Qxb6604299aModsBase
import Derived.Deep.Slices
namespace Go.Proofs.Qxb6604299aMods
open Go.RowKit
set_option linter.unusedVariables false

/-- A row of n []byte values from block b, place off on, row r holding the bytes T r. -/
structure Rws (w : World) (lo b off n : Nat) (A : Nat → Option Addr) (C : Nat → Nat) (T : Nat → List UInt8) : Prop where
  lt : 0 < n → b < w.heap.size
  cell : ∀ r, r < n → w.cell? ⟨b, off + r, none⟩ = some (.slice (A r) (T r).length (C r))
  txt : ∀ r, r < n → Txt w lo (A r) (T r).length (T r)

/-- It returns a bool, whichever. -/
def Boolish (e : Ending) : Prop := ∃ r, e = .returned (.bool r)
theorem Boolish.of {e : Ending} {r : Bool} (h : e = .returned (.bool r)) : Boolish e := ⟨r, h⟩

theorem zzBytes_none (ao aF : Option Addr) (cap nF cF : Nat) (w : World) (hF : nF ≤ maxLen) :
    Calls Trym.prog 4 #[.slice ao 0 cap, .slice aF nF cF] w fun e w' => Boolish e ∧ w = w' := by
  unfold maxLen at hF
  go_enter Trym.func4, Trym.ntmps4
  go_wp2
  go_loop [5, 6] (fun z i => (∃ x : Int, z = .int .i64 x) ∧ i = .int .i64 0) (fun _ _ => 0)
  case atStart => exact ⟨⟨_, rfl⟩, rfl⟩
  case round =>
    obtain ⟨⟨x, rfl⟩, rfl⟩ := hrel
    go_wp2
    all_goals
      go_ret
      exact ⟨Boolish.of rfl, rfl⟩

set_option maxHeartbeats 800000 in
theorem zzBytes_some (lo b off n cap : Nat) (aF : Option Addr) (nF cF : Nat) (A : Nat → Option Addr) (C : Nat → Nat) (T : Nat → List UInt8) (w : World) (h : Rws w lo b off n A C T) (hn : n ≤ maxLen) (hF : nF ≤ maxLen) (hT : ∀ r, r < n → (T r).length ≤ maxLen) :
    Calls Trym.prog 4 #[.slice (some ⟨b, off, none⟩) n cap, .slice aF nF cF] w fun e w' => Boolish e ∧ w = w' := by
  unfold maxLen at hF hn
  have HH : Hid (Rws w lo b off n A C T) := h
  have HT : Hid (∀ r, r < n → (T r).length ≤ maxLen) := hT
  clear h hT
  go_enter Trym.func4, Trym.ntmps4
  go_wp2
  rotate_left
  · go_loop [5, 6] (fun z i => ∃ k : Nat, (∃ x : Int, z = .int .i64 x) ∧ i = .int .i64 k ∧ k ≤ n) (fun _ i => n - (intOf i).toNat)
    case atStart => exact ⟨0, ⟨_, rfl⟩, rfl, Nat.zero_le _⟩
    case round =>
      obtain ⟨k, ⟨x, rfl⟩, rfl, hk⟩ := hrel
      by_cases hlt : k < n
      · have hc := HH.out.cell k hlt
        have hm := HT.out k hlt
        unfold maxLen at hm
        go_wp2
        rotate_right
        · go_round
          case rel => exact ⟨k + 1, ⟨_, rfl⟩, by go_num, by omega⟩
          case measure => simp [intOf]; omega
        all_goals
          go_ret
          exact ⟨Boolish.of rfl, rfl⟩
      · go_wp2
        all_goals
          go_ret
          exact ⟨Boolish.of rfl, rfl⟩
  all_goals
    go_ret
    exact ⟨Boolish.of rfl, rfl⟩

theorem cloneList_none (ao : Option Addr) (cap : Nat) (w : World) :
    Calls Trym.prog 5 #[.slice ao 0 cap] w fun e w' => ∃ ao' cap', e = .returned (.slice ao' 0 cap') ∧ Below w.heap.size w w' := by
  obtain ⟨i0, hi, hz0, hz1, hz2⟩ := info_parts Trym.info25
  have hnil := fun wx => Lib.run_eql_slice_nil (P := Trym.prog) wx 22 25 ao 0 cap 0 0 Trym.underlying22
  cases ao with
  | none =>
    go_enter Trym.func5, Trym.ntmps5
    go_wp2
    go_ret
    exact ⟨_, _, rfl, Below.refl _ _⟩
  | some a =>
    go_enter Trym.func5, Trym.ntmps5
    go_wp2_with (at_make; refine wpList_make_full _ rfl _ _ 22 rfl w.heap.size 25 i0 (.slice none 0 0) 1 Trym.underlying22 hi hz0 hz1 _ _ _ _ 0 rfl rfl rfl rfl ?m1 ?m2 ?m3 ?_)
    case m1 => omega
    case m2 => unfold maxLen; omega
    case m3 => exact Nat.le_refl _
    intro w1 hown1 hgrow1
    have hb1 : Below w.heap.size w w1 := (Below.refl _ _).grown hgrow1 (Nat.le_refl _) (fun k hk => by cases hk)
    clear hown1 hgrow1
    go_wp2
    go_loop [4] (fun i => i = .int .i64 0) (fun _ => 0)
    case atStart => rfl
    case round =>
      subst hrel
      go_wp2
      go_ret
      exact ⟨⟨_, _, rfl⟩, hb1⟩

/-- The block of a fresh row that is owned whole. -/
theorem own_block {w : World} {base e g n cap : Nat} {xs : List Value} (h : w.ownsRow base e 1 (.slice (some ⟨g, 0, none⟩) n cap) n xs) (hc : cap = n) : w.heap[g]? = some (.cells xs.toArray e (0, 0)) := by
  rcases h.2 with ⟨h', _⟩ | ⟨g', cap', cur, h', _, hg, _, _, hcs, ht⟩
  · simp at h'
  · simp only [Value.slice.injEq, Option.some.injEq, Addr.mk.injEq, and_true, true_and] at h'
    obtain ⟨rfl, rfl⟩ := h'
    rw [hg, ← ht, List.take_of_length_le (by rw [Array.length_toList, hcs, hc]; exact Nat.le_refl _)]

set_option maxHeartbeats 1600000 in
theorem cloneList_some (lo b off n cap : Nat) (A : Nat → Option Addr) (C : Nat → Nat) (T : Nat → List UInt8) (w : World) (h : Rws w lo b off n A C T) (h0 : 0 < n) (hn : n ≤ 4096) (hT : ∀ r, r < n → (T r).length ≤ 1048576) :
    Calls Trym.prog 5 #[.slice (some ⟨b, off, none⟩) n cap] w fun e w' => ∃ g cap' A' C', e = .returned (.slice (some ⟨g, 0, none⟩) n cap') ∧ w.heap.size ≤ g ∧ Rws w' w.heap.size g 0 n A' C' T ∧ Below w.heap.size w w' := by
  obtain ⟨i0, hi, hz0, hz1, hz2⟩ := info_parts Trym.info25
  have hnil := fun wx => Lib.run_eql_slice_nil (P := Trym.prog) wx 22 25 (some ⟨b, off, none⟩) n cap 0 0 Trym.underlying22
  have HH : Hid (Rws w lo b off n A C T) := h
  have HT : Hid (∀ r, r < n → (T r).length ≤ 1048576) := hT
  clear h hT
  go_enter Trym.func5, Trym.ntmps5
  go_wp2_with (at_make; refine wpList_make_full _ rfl _ _ 22 rfl w.heap.size 25 i0 (.slice none 0 0) 1 Trym.underlying22 hi hz0 hz1 _ _ _ _ n rfl rfl rfl rfl ?m1 ?m2 ?m3 ?_)
  case m1 => rw [hz2]; omega
  case m2 => unfold maxLen; omega
  case m3 => exact Nat.le_refl _
  intro w1 hown1 hgrow1
  have hb1 : Below w.heap.size w w1 := (Below.refl _ _).grown hgrow1 (Nat.le_refl _) (fun k hk => by cases hk)
  have hxs := hown1.1
  have hblk := own_block hown1 rfl
  have H1 : Hid (∃ cur : Array Value, w1.heap[w.heap.size]? = some (.cells cur 25 (0, 0)) ∧ cur.size = n) := ⟨_, hblk, by rw [List.size_toArray, hxs]; omega⟩
  clear hown1 hgrow1 hxs hblk
  go_wp2
  go_loopw [4] (fun i wr => ∃ k : Nat, k ≤ n ∧ i = .int .i64 k ∧ Below w.heap.size w wr ∧ Hid (∃ cur : Array Value, wr.heap[w.heap.size]? = some (.cells cur 25 (0, 0)) ∧ cur.size = n ∧
      ∀ r, r < k → ∃ a c, cur[r]? = some (.slice a (T r).length c) ∧ Txt wr (w.heap.size + 1) a (T r).length (T r)))
    (fun i _ => n - (intOf i).toNat)
  case atStart =>
    obtain ⟨cur, hc1, hc2⟩ := H1.out
    exact ⟨0, Nat.zero_le _, rfl, hb1, cur, hc1, hc2, fun r hr => absurd hr (by omega)⟩
  case round =>
    obtain ⟨k, hk, rfl, hnx, HI⟩ := hrel
    by_cases hlt : k < n
    · have hbB := HH.out.lt h0
      have hcx : wr.cell? ⟨b, off + k, none⟩ = some (.slice (A k) (T k).length (C k)) := (hnx.cell (p := ⟨b, off + k, none⟩) hbB).trans (HH.out.cell k hlt)
      have htx : Txt wr lo (A k) (T k).length (T k) := (HH.out.txt k hlt).below hnx
      have hTk := HT.out k hlt
      obtain ⟨cur, hcur, hcs, hold⟩ := HI.out
      have hgl : w.heap.size < wr.heap.size := (Array.getElem?_eq_some_iff.1 hcur).1
      have HO : Hid (∀ r, r < k → ∃ a c, cur[r]? = some (.slice a (T r).length c) ∧ Txt wr (w.heap.size + 1) a (T r).length (T r)) := hold
      have HU : Hid (wr.heap[w.heap.size]? = some (.cells cur 25 (0, 0))) := hcur
      clear hold hcur
      go_wp2_with (go_at_call 9; refine (cloneBytes_any (A k) (T k).length (C k) lo (T k) _ htx hTk).mono ?_; rintro e w2 ⟨a2, c2, rfl, ht2, hb2⟩; obtain ⟨x0, hx0, hf0⟩ : ∃ x, w2.cell? ⟨w.heap.size, k, none⟩ = some x ∧ w2.frozen? ⟨w.heap.size, k, none⟩ = false := ⟨cur[k], by rw [cell_of_row w2 w.heap.size k cur 25 (0, 0) ((hb2.block _ hgl).trans HU.out)]; simp, frozen_of_row w2 w.heap.size k cur 25 ((hb2.block _ hgl).trans HU.out)⟩)
      go_roundw
      case rel =>
        refine ⟨k + 1, by omega, by go_num, (hnx.trans (hb2.mono hnx.size)).setCell (p := ⟨w.heap.size, k, none⟩) (Nat.le_refl _) _, cur.setIfInBounds k (.slice a2 (T k).length c2), ?_, by simpa using hcs, fun r hr => ?_⟩
        · exact heap_setCell_same w2 w.heap.size k cur 25 _ ((hb2.block _ hgl).trans HU.out)
        · have hkeep : ∀ (a : Option Addr) (m : Nat) (l : List UInt8), Txt w2 (w.heap.size + 1) a m l → Txt (w2.setCell ⟨w.heap.size, k, none⟩ (.slice a2 (T k).length c2)) (w.heap.size + 1) a m l := fun a m l ht =>
            ht.keep (fun j hj _ => heap_setCell_other w2 ⟨w.heap.size, k, none⟩ j _ (by show j ≠ w.heap.size; omega)) (by simp)
          by_cases hrk : r = k
          · subst hrk
            refine ⟨a2, c2, by simp [hcs, hlt], hkeep _ _ _ ?_⟩
            exact ⟨ht2.len, ht2.none, fun a ha hl => ⟨by have := (ht2.block a ha hl).1; omega, (ht2.block a ha hl).2⟩, ht2.cell⟩
          · obtain ⟨a, c, e1, e2⟩ := HO.out r (by omega)
            exact ⟨a, c, by rw [Array.getElem?_setIfInBounds_ne (by omega)]; exact e1, hkeep _ _ _ (e2.below hb2)⟩
      case measure => simp [intOf]; omega
    · have hkn : k = n := by omega
      subst hkn
      go_wp2
      go_ret
      obtain ⟨cur, hcur, hcs, hall⟩ := HI.out
      have hall' : ∀ r, r < k → ∃ p : Option Addr × Nat, cur[r]? = some (.slice p.1 (T r).length p.2) ∧ Txt wr (w.heap.size + 1) p.1 (T r).length (T r) := fun r hr => by
        obtain ⟨a, c, e1, e2⟩ := hall r hr
        exact ⟨(a, c), e1, e2⟩
      obtain ⟨y, hy⟩ := Deep.choose_lt hall'
      refine ⟨w.heap.size, _, fun r => (y r).1, fun r => (y r).2, rfl, Nat.le_refl _, ⟨fun _ => (Array.getElem?_eq_some_iff.1 hcur).1, fun r hr => ?_, fun r hr => ?_⟩, hnx⟩
      · rw [Nat.zero_add, cell_of_row wr w.heap.size r cur 25 (0, 0) hcur]; exact (hy r hr).1
      · have := (hy r hr).2
        exact ⟨this.len, this.none, fun a ha hl => ⟨by have := (this.block a ha hl).1; omega, (this.block a ha hl).2⟩, this.cell⟩

theorem cloneBools_none (ao : Option Addr) (cap : Nat) (w : World) :
    Calls Trym.prog 6 #[.slice ao 0 cap] w fun e w' => ∃ ao' cap', e = .returned (.slice ao' 0 cap') ∧ Below w.heap.size w w' := by
  obtain ⟨i0, hi, hz0, hz1, hz2⟩ := info_parts Trym.info4
  have hnil := fun wx => Lib.run_eql_slice_nil (P := Trym.prog) wx 23 4 ao 0 cap 0 0 Trym.underlying23
  cases ao with
  | none =>
    go_enter Trym.func6, Trym.ntmps6
    go_wp2
    go_ret
    exact ⟨_, _, rfl, Below.refl _ _⟩
  | some a =>
    go_enter Trym.func6, Trym.ntmps6
    go_wp2_with (at_make; refine wpList_make_full _ rfl _ _ 23 rfl w.heap.size 4 i0 (.bool false) 1 Trym.underlying23 hi hz0 hz1 _ _ _ _ 0 rfl rfl rfl rfl ?m1 ?m2 ?m3 ?_)
    case m1 => omega
    case m2 => unfold maxLen; omega
    case m3 => exact Nat.le_refl _
    intro w1 hown1 hgrow1
    have hb1 : Below w.heap.size w w1 := (Below.refl _ _).grown hgrow1 (Nat.le_refl _) (fun k hk => by cases hk)
    clear hown1 hgrow1
    go_wp2
    go_loop [4] (fun i => i = .int .i64 0) (fun _ => 0)
    case atStart => rfl
    case round =>
      subst hrel
      go_wp2
      go_ret
      exact ⟨⟨_, _, rfl⟩, hb1⟩

set_option maxHeartbeats 1600000 in
theorem cloneBools_some (b off n cap : Nat) (F : Nat → Bool) (w : World) (hlt0 : b < w.heap.size) (h : ∀ r, r < n → w.cell? ⟨b, off + r, none⟩ = some (.bool (F r))) (h0 : 0 < n) (hn : n ≤ 4096) :
    Calls Trym.prog 6 #[.slice (some ⟨b, off, none⟩) n cap] w fun e w' => ∃ g cap', e = .returned (.slice (some ⟨g, 0, none⟩) n cap') ∧ w.heap.size ≤ g ∧ g < w'.heap.size ∧ (∀ r, r < n → w'.cell? ⟨g, r, none⟩ = some (.bool (F r))) ∧ Below w.heap.size w w' := by
  obtain ⟨i0, hi, hz0, hz1, hz2⟩ := info_parts Trym.info4
  have hnil := fun wx => Lib.run_eql_slice_nil (P := Trym.prog) wx 23 4 (some ⟨b, off, none⟩) n cap 0 0 Trym.underlying23
  have HH : Hid (∀ r, r < n → w.cell? ⟨b, off + r, none⟩ = some (.bool (F r))) := h
  clear h
  go_enter Trym.func6, Trym.ntmps6
  go_wp2_with (at_make; refine wpList_make_full _ rfl _ _ 23 rfl w.heap.size 4 i0 (.bool false) 1 Trym.underlying23 hi hz0 hz1 _ _ _ _ n rfl rfl rfl rfl ?m1 ?m2 ?m3 ?_)
  case m1 => rw [hz2]; omega
  case m2 => unfold maxLen; omega
  case m3 => exact Nat.le_refl _
  intro w1 hown1 hgrow1
  have hb1 : Below w.heap.size w w1 := (Below.refl _ _).grown hgrow1 (Nat.le_refl _) (fun k hk => by cases hk)
  have hxs := hown1.1
  have hblk := own_block hown1 rfl
  have H1 : Hid (∃ cur : Array Value, w1.heap[w.heap.size]? = some (.cells cur 4 (0, 0)) ∧ cur.size = n) := ⟨_, hblk, by rw [List.size_toArray, hxs]; omega⟩
  clear hown1 hgrow1 hxs hblk
  go_wp2
  go_loopw [4] (fun i wr => ∃ k : Nat, k ≤ n ∧ i = .int .i64 k ∧ Below w.heap.size w wr ∧ Hid (∃ cur : Array Value, wr.heap[w.heap.size]? = some (.cells cur 4 (0, 0)) ∧ cur.size = n ∧
      ∀ r, r < k → cur[r]? = some (.bool (F r))))
    (fun i _ => n - (intOf i).toNat)
  case atStart =>
    obtain ⟨cur, hc1, hc2⟩ := H1.out
    exact ⟨0, Nat.zero_le _, rfl, hb1, cur, hc1, hc2, fun r hr => absurd hr (by omega)⟩
  case round =>
    obtain ⟨k, hk, rfl, hnx, HI⟩ := hrel
    by_cases hlt : k < n
    · have hcx : wr.cell? ⟨b, off + k, none⟩ = some (.bool (F k)) := (hnx.cell (p := ⟨b, off + k, none⟩) hlt0).trans (HH.out k hlt)
      obtain ⟨cur, hcur, hcs, hold⟩ := HI.out
      have HO : Hid (∀ r, r < k → cur[r]? = some (.bool (F r))) := hold
      have HU : Hid (wr.heap[w.heap.size]? = some (.cells cur 4 (0, 0))) := hcur
      obtain ⟨x0, hx0, hf0⟩ : ∃ x, wr.cell? ⟨w.heap.size, k, none⟩ = some x ∧ wr.frozen? ⟨w.heap.size, k, none⟩ = false := ⟨cur[k], by rw [cell_of_row wr w.heap.size k cur 4 (0, 0) hcur]; simp, frozen_of_row wr w.heap.size k cur 4 hcur⟩
      clear hold hcur
      go_wp2
      go_roundw
      case rel =>
        refine ⟨k + 1, by omega, by go_num, hnx.setCell (p := ⟨w.heap.size, k, none⟩) (Nat.le_refl _) _, cur.setIfInBounds k (.bool (F k)), ?_, by simpa using hcs, fun r hr => ?_⟩
        · exact heap_setCell_same wr w.heap.size k cur 4 _ HU.out
        · by_cases hrk : r = k
          · subst hrk
            simp [hcs, hlt]
          · rw [Array.getElem?_setIfInBounds_ne (by omega)]; exact HO.out r (by omega)
      case measure => simp [intOf]; omega
    · have hkn : k = n := by omega
      subst hkn
      go_wp2
      go_ret
      obtain ⟨cur, hcur, hcs, hall⟩ := HI.out
      refine ⟨w.heap.size, _, rfl, Nat.le_refl _, (Array.getElem?_eq_some_iff.1 hcur).1, fun r hr => ?_, hnx⟩
      rw [cell_of_row wr w.heap.size r cur 4 (0, 0) hcur]; exact hall r hr

end Go.Proofs.Qxb6604299aMods
