/-
  Seat b6605327aM: how the entries lie in memory; zzBytes (5, 16), mkBytes (6), mkSorted (7).
-/
import Derived.Test.Qxb6605327aModsRows
import Derived.Test.Qxb6605327aModsPlain
import Derived.WalkKit
import Derived.WalkSpells
import Derived.Deep.QuietTactic
import Derived.BigQuiet
namespace Go.Proofs.Qxb6605327aMods
open Go.RowKit Plain
set_option linter.unusedVariables false

/-- The order of Go's strings. -/
def klt (a b : ByteArray) : Bool := Op.bytesLess a.toList b.toList

theorem less_irr : ∀ l : List UInt8, Op.bytesLess l l = false
  | [] => rfl
  | a :: l => by simp [Op.bytesLess, less_irr l]
theorem less_tr : ∀ {a b c : List UInt8}, Op.bytesLess a b = true → Op.bytesLess b c = true → Op.bytesLess a c = true
  | _, [], _, h, _ => by simp [Op.bytesLess] at h
  | _, _ :: _, [], _, h => by simp [Op.bytesLess] at h
  | [], _ :: _, _ :: _, _, _ => rfl
  | a :: x, b :: y, c :: z, h1, h2 => by
    simp only [Op.bytesLess, Bool.or_eq_true, decide_eq_true_eq, Bool.and_eq_true, beq_iff_eq] at h1 h2 ⊢
    rcases h1 with h1 | ⟨rfl, h1⟩
    · rcases h2 with h2 | ⟨rfl, _⟩
      · exact .inl (UInt8.lt_trans h1 h2)
      · exact .inl h1
    · rcases h2 with h2 | ⟨rfl, h2⟩
      · exact .inl h2
      · exact .inr ⟨rfl, less_tr h1 h2⟩
theorem less_tot : ∀ {a b : List UInt8}, Op.bytesLess a b = false → Op.bytesLess b a = false → a = b
  | [], [], _, _ => rfl
  | [], _ :: _, h, _ => by simp [Op.bytesLess] at h
  | _ :: _, [], _, h => by simp [Op.bytesLess] at h
  | a :: x, b :: y, h1, h2 => by
    simp only [Op.bytesLess, Bool.or_eq_false_iff, decide_eq_false_iff_not, Bool.and_eq_false_iff, beq_eq_false_iff_ne] at h1 h2
    have hab : a = b := UInt8.le_antisymm (UInt8.not_lt.1 h2.1) (UInt8.not_lt.1 h1.1)
    subst hab
    rw [less_tot (h1.2.resolve_left (by simp)) (h2.2.resolve_left (by simp))]

theorem toList_inj {a b : ByteArray} (h : a.toList = b.toList) : a = b := by
  rw [ByteArray.toList_eq, ByteArray.toList_eq] at h
  exact ByteArray.ext (Array.toList_inj.1 h)

theorem kord : Ord klt := ⟨fun a => less_irr _, fun h1 h2 => less_tr h1 h2, fun h1 h2 => toList_inj (less_tot h1 h2)⟩

/-- Key and tag of entry r. -/
def ky (E : List (ByteArray × Int)) (r : Nat) : ByteArray := (E.getD r (ByteArray.empty, 0)).1
def tg (E : List (ByteArray × Int)) (r : Nat) : Int := (E.getD r (ByteArray.empty, 0)).2

/-- The slice at ao holds the entries E: from block b, place off on, two cells an entry. -/
structure Arg (w : World) (ao : Option Addr) (E : List (ByteArray × Int)) (b off : Nat) : Prop where
  at_ : 0 < E.length → ao = some ⟨b, off, none⟩ ∧ b < w.heap.size
  key : ∀ r, r < E.length → w.cell? ⟨b, off + r * 2, none⟩ = some (.string (ky E r))
  tag : ∀ r, r < E.length → w.cell? ⟨b, off + r * 2 + 1, none⟩ = some (.int .u64 (tg E r))

theorem Arg.below {w w' : World} {ao : Option Addr} {E : List (ByteArray × Int)} {b off : Nat} (h : Arg w ao E b off) (hb : Below w.heap.size w w') : Arg w' ao E b off :=
  ⟨fun h0 => ⟨(h.at_ h0).1, Nat.lt_of_lt_of_le (h.at_ h0).2 hb.size⟩, fun r hr => (hb.cell (p := ⟨b, off + r * 2, none⟩) (h.at_ (by omega)).2).trans (h.key r hr), fun r hr => (hb.cell (p := ⟨b, off + r * 2 + 1, none⟩) (h.at_ (by omega)).2).trans (h.tag r hr)⟩

theorem Trym.size40 : (Trym.prog.info? 40).map (·.size) = some 2 := by kernel_rfl

/-- xs[k], the address of the entry: for the walk. -/
theorem Arg.index {w : World} {ao : Option Addr} {E : List (ByteArray × Int)} {b off : Nat} (h : Arg w ao E b off) (cap k : Nat) (hk : k < E.length) (wx : World) :
    (Instr.indexAt 22 (.slice ao E.length cap) (.int .i64 (k : Int))).run Trym.prog wx = .ok (.pointer (some ⟨b, off + k * 2, none⟩)) wx := by
  rw [(h.at_ (by omega)).1]
  have h1 : (k : Int) < (E.length : Int) := by omega
  obtain ⟨i, hi, hs⟩ := Option.map_eq_some_iff.1 Trym.size40
  simp [Instr.indexAt, asIntOf, run_underlying Trym.underlying22, sizeOf, typeInfo, hi, hs, hk, Addr.add_lit]

set_option maxHeartbeats 800000 in
theorem mkBytes_any (ao : Option Addr) (E : List (ByteArray × Int)) (b off cap : Nat) (w : World) (h : Arg w ao E b off) (hn : E.length ≤ 65536) (hK : ∀ r, r < E.length → (ky E r).size ≤ maxLen) :
    Calls Trym.prog 6 #[.slice ao E.length cap] w fun e w' => ∃ m : Nat, e = .returned (.int .i64 m) ∧ m ≤ 2097200 ∧ (m ≤ 1048576 → E.length * 24 ≤ 1048576 ∧ ∀ r, r < E.length → (ky E r).size ≤ 1048576) ∧ w = w' := by
  have HH : Hid (Arg w ao E b off) := h
  have HK : Hid (∀ r, r < E.length → (ky E r).size ≤ maxLen) := hK
  clear h hK
  go_enter Trym.func6, Trym.ntmps6
  go_wp2
  go_loop [3, 4] (fun z i => ∃ k X : Nat, k ≤ E.length ∧ i = .int .i64 k ∧ z = .int .i64 X ∧ X ≤ 1048576 ∧ k * 24 ≤ X ∧ Hid (∀ r, r < k → (ky E r).size ≤ 1048576)) (fun _ i => E.length - (intOf i).toNat)
  case atStart => exact ⟨0, 0, Nat.zero_le _, rfl, rfl, by omega, by omega, fun r hr => absurd hr (by omega)⟩
  case round =>
    obtain ⟨k, X, hk, rfl, rfl, hX, hkX, HL⟩ := hrel
    by_cases hlt : k < E.length
    · have hix := HH.out.index cap k hlt
      have hc := HH.out.key k hlt
      have hm := HK.out k hlt
      unfold maxLen at hm
      go_wp2
      · go_ret
        exact ⟨1048577, rfl, by omega, fun h => absurd h (by omega), rfl⟩
      · go_ret
        exact ⟨X + (24 + (ky E k).size), rfl, by omega, fun h => absurd h (by omega), rfl⟩
      · go_round
        case rel => exact ⟨k + 1, X + (24 + (ky E k).size), by omega, by go_num, by go_num, by omega, by omega, fun r hr => by
          by_cases e : r = k
          · subst e; omega
          · exact HL.out r (by omega)⟩
        case measure => simp [intOf]; omega
    · have HL' : Hid (∀ r, r < E.length → (ky E r).size ≤ 1048576) := fun r hr => HL.out r (by omega)
      go_wp2
      go_ret
      exact ⟨X, rfl, by omega, fun _ => ⟨by omega, HL'.out⟩, rfl⟩

theorem Arg.index1 {w : World} {ao : Option Addr} {E : List (ByteArray × Int)} {b off : Nat} (h : Arg w ao E b off) (cap m : Nat) (hm : m + 1 < E.length) (wx : World) :
    (Instr.indexAt 22 (.slice ao E.length cap) (.int .i64 ((m : Int) + 1))).run Trym.prog wx = .ok (.pointer (some ⟨b, off + (m + 1) * 2, none⟩)) wx := by
  have := h.index cap (m + 1) hm wx
  simpa using this

/-- A bool that says true only where the keys increase. -/
def SrtRes (f : Nat → ByteArray) (n : Nat) (e : Ending) : Prop := ∃ b, e = .returned (.bool b) ∧ (b = true → Inc klt f n)
theorem SrtRes.no (f : Nat → ByteArray) (n : Nat) : SrtRes f n (.returned (.bool false)) := ⟨false, rfl, fun h => by cases h⟩
theorem SrtRes.yes {f : Nat → ByteArray} {n : Nat} (h : Inc klt f n) : SrtRes f n (.returned (.bool true)) := ⟨true, rfl, fun _ => h⟩

theorem inc_of_steps {f : Nat → ByteArray} {n : Nat} (h : ∀ m, m + 1 < n → klt (f m) (f (m + 1)) = true) : Inc klt f n := by
  intro i j hij hj
  induction j with
  | zero => omega
  | succ j ih =>
    by_cases e : i = j
    · subst e; exact h i hj
    · exact kord.tr (ih (by omega) (by omega)) (h j hj)

theorem below_drewN {w : World} (q : Nat) : Below w.heap.size w (w.drewN q) := ⟨rfl, rfl, rfl, Nat.le_refl _, fun _ _ => rfl⟩

set_option maxHeartbeats 800000 in
theorem mkSorted_any (ao : Option Addr) (E : List (ByteArray × Int)) (b off cap : Nat) (w : World) (h : Arg w ao E b off) (hn : E.length ≤ 65536) :
    Calls Trym.prog 7 #[.slice ao E.length cap] w fun e w' => SrtRes (ky E) E.length e ∧ Below w.heap.size w w' := by
  have HH : Hid (Arg w ao E b off) := h
  clear h
  go_enter Trym.func7, Trym.ntmps7
  go_wp2
  go_loopw [3] (fun i wr => ∃ m q : Nat, i = .int .i64 ((m : Int) + 1) ∧ (m + 1 ≤ E.length ∨ m = 0) ∧ wr = w.drewN q ∧ Hid (∀ j, j < m → klt (ky E j) (ky E (j + 1)) = true)) (fun i _ => E.length + 1 - (intOf i).toNat)
  case atStart => exact ⟨0, 0, rfl, .inr rfl, rfl, fun j hj => absurd hj (by omega)⟩
  case round =>
    obtain ⟨m, q, rfl, hm, rfl, HI⟩ := hrel
    by_cases hlt : m + 1 < E.length
    · have hix := HH.out.index cap m (by omega)
      have hix1 := HH.out.index1 cap m hlt
      have e1 := HH.out.key m (by omega)
      have e2 := HH.out.key (m + 1) hlt
      have i1 : (m : Int) + 1 < (E.length : Int) := by omega
      cases hb : klt (ky E m) (ky E (m + 1)) with
      | true =>
        have hb' : Op.bytesLess (ky E m).toList (ky E (m + 1)).toList = true := hb
        have HJ : Hid (∀ j, j < m + 1 → klt (ky E j) (ky E (j + 1)) = true) := fun j hj => by
          by_cases e : j = m
          · subst e; exact hb
          · exact HI.out j (by omega)
        clear hb
        go_wp2
        go_quiet (fail)
        go_wp2
        go_roundw
        case rel => exact ⟨m + 1, q + nq, by go_num, by omega, by simp, HJ⟩
        case measure => simp [intOf]; omega
      | false =>
        have hb' : Op.bytesLess (ky E m).toList (ky E (m + 1)).toList = false := hb
        clear hb
        go_wp2
        go_quiet (fail)
        go_wp2
        go_ret
        exact ⟨SrtRes.no _ _, ⟨rfl, rfl, rfl, Nat.le_refl _, fun _ _ => rfl⟩⟩
    · have HJ : Hid (Inc klt (ky E) E.length) := inc_of_steps fun j hj => HI.out j (by omega)
      have i1 : ¬ (m : Int) + 1 < (E.length : Int) := by omega
      go_wp2
      go_ret
      exact ⟨SrtRes.yes HJ.out, below_drewN _⟩

/-- It returns a bool, whichever. -/
def Boolish (e : Ending) : Prop := ∃ r, e = .returned (.bool r)
theorem Boolish.of {e : Ending} {r : Bool} (h : e = .returned (.bool r)) : Boolish e := ⟨r, h⟩

theorem Trym.info9 : (Trym.prog.info? 9).map (fun i => (i.zero, i.size, i.bytes)) = some (some (.string ByteArray.empty), 1, 16) := by kernel_rfl
theorem Trym.info38 : (Trym.prog.info? 38).map (fun i => (i.zero, i.size, i.bytes)) = some (some (.int .u64 0), 1, 8) := by kernel_rfl

/-- The block of a fresh row that is owned whole. -/
theorem own_block {w : World} {base e g n cap : Nat} {xs : List Value} (h : w.ownsRow base e 1 (.slice (some ⟨g, 0, none⟩) n cap) n xs) (hc : cap = n) : w.heap[g]? = some (.cells xs.toArray e (0, 0)) := by
  rcases h.2 with ⟨h', _⟩ | ⟨g', cap', cur, h', _, hg, _, _, hcs, ht⟩
  · simp at h'
  · simp only [Value.slice.injEq, Option.some.injEq, Addr.mk.injEq, and_true, true_and] at h'
    obtain ⟨rfl, rfl⟩ := h'
    rw [hg, ← ht, List.take_of_length_le (by rw [Array.length_toList, hcs, hc]; exact Nat.le_refl _)]

/-- Block g holds n strings, f r the r-th. -/
structure StrRow (w : World) (g n : Nat) (f : Nat → ByteArray) : Prop where
  lt : g < w.heap.size
  cell : ∀ r, r < n → w.cell? ⟨g, r, none⟩ = some (.string (f r))
theorem StrRow.below {w w' : World} {g n : Nat} {f : Nat → ByteArray} (h : StrRow w g n f) (hb : Below w.heap.size w w') : StrRow w' g n f :=
  ⟨Nat.lt_of_lt_of_le h.lt hb.size, fun r hr => (hb.cell (p := ⟨g, r, none⟩) h.lt).trans (h.cell r hr)⟩
structure TagRow (w : World) (g n : Nat) (f : Nat → Int) : Prop where
  lt : g < w.heap.size
  cell : ∀ r, r < n → w.cell? ⟨g, r, none⟩ = some (.int .u64 (f r))
theorem TagRow.below {w w' : World} {g n : Nat} {f : Nat → Int} (h : TagRow w g n f) (hb : Below w.heap.size w w') : TagRow w' g n f :=
  ⟨Nat.lt_of_lt_of_le h.lt hb.size, fun r hr => (hb.cell (p := ⟨g, r, none⟩) h.lt).trans (h.cell r hr)⟩

set_option maxHeartbeats 800000 in
theorem mkKeys_any (ao : Option Addr) (E : List (ByteArray × Int)) (b off cap : Nat) (w : World) (h : Arg w ao E b off) (hn : E.length ≤ 65536) :
    Calls Trym.prog 9 #[.slice ao E.length cap] w fun e w' => e = .returned (.slice (some ⟨w.heap.size, 0, none⟩) E.length E.length) ∧ StrRow w' w.heap.size E.length (ky E) ∧ Below w.heap.size w w' := by
  obtain ⟨i0, hi, hz0, hz1, hz2⟩ := info_parts Trym.info9
  have HH : Hid (Arg w ao E b off) := h
  clear h
  go_enter Trym.func9, Trym.ntmps9
  go_wp2_with (at_make; refine wpList_make_full _ rfl _ _ 28 rfl w.heap.size 9 i0 (.string ByteArray.empty) 1 Trym.underlying28 hi hz0 hz1 _ _ _ _ E.length rfl rfl rfl rfl ?m1 ?m2 ?m3 ?_)
  case m1 => rw [hz2]; omega
  case m2 => unfold maxLen; omega
  case m3 => exact Nat.le_refl _
  intro w1 hown1 hgrow1
  have hb1 : Below w.heap.size w w1 := (Below.refl _ _).grown hgrow1 (Nat.le_refl _) (fun k hk => by cases hk)
  have hxs := hown1.1
  have hblk := own_block hown1 rfl
  have H1 : Hid (∃ cur : Array Value, w1.heap[w.heap.size]? = some (.cells cur 9 (0, 0)) ∧ cur.size = E.length) := ⟨_, hblk, by rw [List.size_toArray, hxs]; omega⟩
  clear hown1 hgrow1 hxs hblk
  go_wp2
  go_loopw [4] (fun i wr => ∃ k : Nat, k ≤ E.length ∧ i = .int .i64 k ∧ Below w.heap.size w wr ∧ Hid (∃ cur : Array Value, wr.heap[w.heap.size]? = some (.cells cur 9 (0, 0)) ∧ cur.size = E.length ∧
      ∀ r, r < k → cur[r]? = some (.string (ky E r))))
    (fun i _ => E.length - (intOf i).toNat)
  case atStart =>
    obtain ⟨cur, hc1, hc2⟩ := H1.out
    exact ⟨0, Nat.zero_le _, rfl, hb1, cur, hc1, hc2, fun r hr => absurd hr (by omega)⟩
  case round =>
    obtain ⟨k, hk, rfl, hnx, HI⟩ := hrel
    by_cases hlt : k < E.length
    · have hA := HH.out.below hnx
      have hix := hA.index cap k hlt
      have hcx := hA.key k hlt
      obtain ⟨cur, hcur, hcs, hold⟩ := HI.out
      have HO : Hid (∀ r, r < k → cur[r]? = some (.string (ky E r))) := hold
      have HU : Hid (wr.heap[w.heap.size]? = some (.cells cur 9 (0, 0))) := hcur
      obtain ⟨x0, hx0, hf0⟩ : ∃ x, wr.cell? ⟨w.heap.size, k, none⟩ = some x ∧ wr.frozen? ⟨w.heap.size, k, none⟩ = false := ⟨cur[k], by rw [cell_of_row wr w.heap.size k cur 9 (0, 0) hcur]; simp, frozen_of_row wr w.heap.size k cur 9 hcur⟩
      clear hold hcur hA
      go_wp2
      go_roundw
      case rel =>
        refine ⟨k + 1, by omega, by go_num, hnx.setCell (p := ⟨w.heap.size, k, none⟩) (Nat.le_refl _) _, cur.setIfInBounds k (.string (ky E k)), ?_, by simpa using hcs, fun r hr => ?_⟩
        · exact heap_setCell_same wr w.heap.size k cur 9 _ HU.out
        · by_cases hrk : r = k
          · subst hrk
            simp [hcs, hlt]
          · rw [Array.getElem?_setIfInBounds_ne (by omega)]; exact HO.out r (by omega)
      case measure => simp [intOf]; omega
    · have hkn : k = E.length := by omega
      subst hkn
      go_wp2
      go_ret
      obtain ⟨cur, hcur, hcs, hall⟩ := HI.out
      refine ⟨rfl, ⟨(Array.getElem?_eq_some_iff.1 hcur).1, fun r hr => ?_⟩, hnx⟩
      rw [cell_of_row wr w.heap.size r cur 9 (0, 0) hcur]; exact hall r hr

set_option maxHeartbeats 800000 in
theorem mkTags_any (ao : Option Addr) (E : List (ByteArray × Int)) (b off cap : Nat) (w : World) (h : Arg w ao E b off) (hn : E.length ≤ 65536) :
    Calls Trym.prog 10 #[.slice ao E.length cap] w fun e w' => e = .returned (.slice (some ⟨w.heap.size, 0, none⟩) E.length E.length) ∧ TagRow w' w.heap.size E.length (tg E) ∧ Below w.heap.size w w' := by
  obtain ⟨i0, hi, hz0, hz1, hz2⟩ := info_parts Trym.info38
  have HH : Hid (Arg w ao E b off) := h
  clear h
  go_enter Trym.func10, Trym.ntmps10
  go_wp2_with (at_make; refine wpList_make_full _ rfl _ _ 30 rfl w.heap.size 38 i0 (.int .u64 0) 1 Trym.underlying30 hi hz0 hz1 _ _ _ _ E.length rfl rfl rfl rfl ?m1 ?m2 ?m3 ?_)
  case m1 => rw [hz2]; omega
  case m2 => unfold maxLen; omega
  case m3 => exact Nat.le_refl _
  intro w1 hown1 hgrow1
  have hb1 : Below w.heap.size w w1 := (Below.refl _ _).grown hgrow1 (Nat.le_refl _) (fun k hk => by cases hk)
  have hxs := hown1.1
  have hblk := own_block hown1 rfl
  have H1 : Hid (∃ cur : Array Value, w1.heap[w.heap.size]? = some (.cells cur 38 (0, 0)) ∧ cur.size = E.length) := ⟨_, hblk, by rw [List.size_toArray, hxs]; omega⟩
  clear hown1 hgrow1 hxs hblk
  go_wp2
  go_loopw [4] (fun i wr => ∃ k : Nat, k ≤ E.length ∧ i = .int .i64 k ∧ Below w.heap.size w wr ∧ Hid (∃ cur : Array Value, wr.heap[w.heap.size]? = some (.cells cur 38 (0, 0)) ∧ cur.size = E.length ∧
      ∀ r, r < k → cur[r]? = some (.int .u64 (tg E r))))
    (fun i _ => E.length - (intOf i).toNat)
  case atStart =>
    obtain ⟨cur, hc1, hc2⟩ := H1.out
    exact ⟨0, Nat.zero_le _, rfl, hb1, cur, hc1, hc2, fun r hr => absurd hr (by omega)⟩
  case round =>
    obtain ⟨k, hk, rfl, hnx, HI⟩ := hrel
    by_cases hlt : k < E.length
    · have hA := HH.out.below hnx
      have hix := hA.index cap k hlt
      have hcx := hA.tag k hlt
      obtain ⟨cur, hcur, hcs, hold⟩ := HI.out
      have HO : Hid (∀ r, r < k → cur[r]? = some (.int .u64 (tg E r))) := hold
      have HU : Hid (wr.heap[w.heap.size]? = some (.cells cur 38 (0, 0))) := hcur
      obtain ⟨x0, hx0, hf0⟩ : ∃ x, wr.cell? ⟨w.heap.size, k, none⟩ = some x ∧ wr.frozen? ⟨w.heap.size, k, none⟩ = false := ⟨cur[k], by rw [cell_of_row wr w.heap.size k cur 38 (0, 0) hcur]; simp, frozen_of_row wr w.heap.size k cur 38 hcur⟩
      clear hold hcur hA
      go_wp2
      go_roundw
      case rel =>
        refine ⟨k + 1, by omega, by go_num, hnx.setCell (p := ⟨w.heap.size, k, none⟩) (Nat.le_refl _) _, cur.setIfInBounds k (.int .u64 (tg E k)), ?_, by simpa using hcs, fun r hr => ?_⟩
        · exact heap_setCell_same wr w.heap.size k cur 38 _ HU.out
        · by_cases hrk : r = k
          · subst hrk
            simp [hcs, hlt]
          · rw [Array.getElem?_setIfInBounds_ne (by omega)]; exact HO.out r (by omega)
      case measure => simp [intOf]; omega
    · have hkn : k = E.length := by omega
      subst hkn
      go_wp2
      go_ret
      obtain ⟨cur, hcur, hcs, hall⟩ := HI.out
      refine ⟨rfl, ⟨(Array.getElem?_eq_some_iff.1 hcur).1, fun r hr => ?_⟩, hnx⟩
      rw [cell_of_row wr w.heap.size r cur 38 (0, 0) hcur]; exact hall r hr

end Go.Proofs.Qxb6605327aMods
