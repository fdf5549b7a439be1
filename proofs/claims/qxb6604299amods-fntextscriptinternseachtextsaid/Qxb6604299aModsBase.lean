/-
  Seat b6604299aM: what a []byte value holds; zzBytes (4), zzB1CloneBytes (9).
-/
import Derived.Test.Qxb6604299aModsRows
import Derived.WalkKit
import Derived.WalkSpells
import Derived.Lib.LazyBuf
import Derived.Laws.CopyOwn
namespace Go.Proofs.Qxb6604299aMods
open Go.RowKit

theorem Trym.info5 : (Trym.prog.info? 5).map (fun i => (i.zero, i.size, i.bytes)) = some (some (.int .u8 0), 1, 1) := by kernel_rfl
theorem Trym.info4 : (Trym.prog.info? 4).map (fun i => (i.zero, i.size, i.bytes)) = some (some (.bool false), 1, 1) := by kernel_rfl
theorem Trym.info9 : (Trym.prog.info? 9).map (fun i => (i.zero, i.size, i.bytes)) = some (some (.string ByteArray.empty), 1, 16) := by kernel_rfl
theorem Trym.info25 : (Trym.prog.info? 25).map (fun i => (i.zero, i.size, i.bytes)) = some (some (.slice none 0 0), 1, 24) := by kernel_rfl

def byteVals (l : List UInt8) : List Value := l.map fun b => Value.int .u8 b.toNat
theorem byteVals_length (l : List UInt8) : (byteVals l).length = l.length := by simp [byteVals]
theorem byteVals_at (l : List UInt8) (j : Nat) (h : j < l.length) : (byteVals l)[j]? = some (.int .u8 (l[j].toNat : Int)) := by simp [byteVals, h]

def bmk (l : List UInt8) : ByteArray := ⟨l.toArray⟩
theorem bmk_toList (l : List UInt8) : (bmk l).toList = l := ByteArray.toList_mk l
theorem bmk_data (l : List UInt8) : (bmk l).data.toList = l := rfl
theorem bmk_size (l : List UInt8) : (bmk l).size = l.length := by simp [bmk, ByteArray.size]

/-- The slice at ao with n elements holds the bytes l; the memory in which they lie has numbers from lo on. -/
structure Txt (w : World) (lo : Nat) (ao : Option Addr) (n : Nat) (l : List UInt8) : Prop where
  len : n = l.length
  none : ao = none → l = []
  block : ∀ a, ao = some a → l ≠ [] → lo ≤ a.block ∧ a.block < w.heap.size
  cell : ∀ a, ao = some a → ∀ j (hj : j < l.length), w.cell? (a.add j) = some (.int .u8 (l[j].toNat : Int))

theorem add_block (a : Addr) (j : Nat) : (a.add j).block = a.block := by unfold Addr.add; split <;> rfl

theorem Txt.keep {w w' : World} {lo : Nat} {ao : Option Addr} {n : Nat} {l : List UInt8} (h : Txt w lo ao n l) (hb : ∀ k, lo ≤ k → k < w.heap.size → w'.heap[k]? = w.heap[k]?) (hs : w.heap.size ≤ w'.heap.size) : Txt w' lo ao n l := by
  refine ⟨h.len, h.none, fun a ha hl => ⟨(h.block a ha hl).1, Nat.lt_of_lt_of_le (h.block a ha hl).2 hs⟩, fun a ha j hj => ?_⟩
  have hl : l ≠ [] := by intro e; subst e; simp at hj
  have hbl := h.block a ha hl
  exact (World.cell?_of_block (hb _ (by rw [add_block]; exact hbl.1) (by rw [add_block]; exact hbl.2))).trans (h.cell a ha j hj)

theorem Txt.below {w w' : World} {lo : Nat} {ao : Option Addr} {n : Nat} {l : List UInt8} (h : Txt w lo ao n l) (hb : Below w.heap.size w w') : Txt w' lo ao n l :=
  h.keep (fun k _ hk => hb.block k hk) hb.size

/-- string(b). -/
theorem Txt.convert {w : World} {lo : Nat} {ao : Option Addr} {n cap : Nat} {l : List UInt8} (h : Txt w lo ao n l) : (convert 25 9 (.slice ao n cap)).run Trym.prog w = .ok (.string (bmk l)) w := by
  cases ao with
  | none =>
    have hl := h.none rfl
    rw [run_convert_bytes_nil w 25 5 Trym.underlying25 Trym.underlying5 n cap 9 Trym.underlying9, hl]
    rfl
  | some a =>
    rw [h.len]
    exact run_convert_bytes_back w 25 9 5 a cap l Trym.underlying25 Trym.underlying5 Trym.underlying9 (h.cell a rfl)

set_option maxHeartbeats 800000 in
theorem cloneBytes_any (ao : Option Addr) (n cap lo : Nat) (l : List UInt8) (w : World) (h : Txt w lo ao n l) (hn : n ≤ 1048576) :
    Calls Trym.prog 9 #[.slice ao n cap] w fun e w' => ∃ ao' cap', e = .returned (.slice ao' n cap') ∧ Txt w' w.heap.size ao' n l ∧ Below w.heap.size w w' := by
  obtain ⟨i0, hi, hz0, hz1, hz2⟩ := info_parts Trym.info5
  obtain rfl : n = l.length := h.len
  have hnil := fun wx => Lib.run_eql_slice_nil (P := Trym.prog) wx 25 5 ao l.length cap 0 0 Trym.underlying25
  cases ao with
  | none =>
    have hl := h.none rfl
    subst hl
    have hnil0 := fun wx => Lib.run_eql_slice_nil (P := Trym.prog) wx 25 5 none 0 cap 0 0 Trym.underlying25
    go_enter Trym.func9, Trym.ntmps9
    go_wp2
    go_ret
    exact ⟨none, 0, rfl, ⟨rfl, fun _ => rfl, (fun _ e => by cases e), fun _ e => by cases e⟩, Below.refl _ _⟩
  | some a =>
    have HC : Hid (∀ j (hj : j < l.length), w.cell? (a.add j) = some (.int .u8 (l[j].toNat : Int))) := h.cell a rfl
    obtain ⟨B, hB⟩ : ∃ B, B = byteVals l := ⟨_, rfl⟩
    have hBl : B.length = l.length := by rw [hB, byteVals_length]
    have HB : Hid (B = byteVals l) := hB
    clear hB
    go_enter Trym.func9, Trym.ntmps9
    go_wp2_with (at_make; refine wpList_make_full _ rfl _ _ 25 rfl w.heap.size 5 i0 (.int .u8 0) 1 Trym.underlying25 hi hz0 hz1 _ _ _ _ l.length rfl rfl rfl rfl ?m1 ?m2 ?m3 ?_)
    case m1 => rw [hz2]; omega
    case m2 => unfold maxLen; omega
    case m3 => exact Nat.le_refl _
    intro w1 hown1 hgrow1
    have hb1 : Below w.heap.size w w1 := (Below.refl _ _).grown hgrow1 (Nat.le_refl _) (fun k hk => by cases hk)
    obtain ⟨cur, hg0, hcs⟩ : ∃ cur : List Value, w1.heap[w.heap.size]? = some (.cells cur.toArray 5 (0, 0)) ∧ cur.length = l.length := by
      rcases hown1.2 with ⟨h', _⟩ | ⟨g', cap', cur, h', _, hg, _, _, hcs, _⟩
      · simp at h'
      · simp only [Value.slice.injEq, Option.some.injEq, Addr.mk.injEq, and_true, true_and] at h'
        obtain ⟨e1, e2⟩ := h'
        exact ⟨cur.toList, by rw [e1]; exact hg, by rw [Array.length_toList, hcs, ← e2]; omega⟩
    clear hown1 hgrow1
    obtain ⟨w2, hcp, hg2, hb2⟩ : ∃ w2, (∀ ty, (Builtin.copy_ #[25, 25] ty #[.slice (some ⟨w.heap.size, 0, none⟩) l.length l.length, .slice (some a) l.length cap]).run Trym.prog w1 = .ok (goInt l.length) w2) ∧
        w2.heap[w.heap.size]? = some (.cells (byteVals l).toArray 5 (0, 0)) ∧ Below w.heap.size w w2 := by
      have hl' : cur.toArray.toList.take 0 ++ B ++ cur.toArray.toList.drop (0 + B.length) = byteVals l := by
        rw [List.drop_eq_nil_of_le (by simp; omega)]
        simpa using HB.out
      refine ⟨w1.setRow w.heap.size (byteVals l).toArray, fun ty => ?_, setRow_heap w1 w.heap.size _ _ 5 _ hg0, below_setRow hb1 (Nat.le_refl _) _⟩
      have hr := run_copy_row (P := Trym.prog) w1 25 25 ty 5 w.heap.size 0 l.length l.length a l.length cap cur.toArray 5 B Trym.underlying25 (by kernel_rfl) hg0 (by simpa using hBl) (fun j v hj => by
        have hj' : j < l.length := by have := (List.getElem?_eq_some_iff.1 hj).1; omega
        have hlne : l ≠ [] := by intro e; subst e; simp at hj'
        have hlt := (h.block a rfl hlne).2
        rw [hb1.cell (by rw [add_block]; exact hlt), HC.out j hj']
        rw [HB.out, byteVals_at l j hj'] at hj
        exact hj) (by simp; omega) (fun v hv => by
        rw [HB.out] at hv
        obtain ⟨_, _, rfl⟩ := List.mem_map.1 hv
        rfl)
      rw [hl', hBl] at hr
      exact hr
    have HG2 : Hid (w2.heap[w.heap.size]? = some (.cells (byteVals l).toArray 5 (0, 0))) := hg2
    clear hg2 hg0
    go_wp2
    go_ret
    refine ⟨some ⟨w.heap.size, 0, none⟩, l.length, rfl, ⟨rfl, (fun e => by cases e), fun a' e hne => ?_, fun a' e j hj => ?_⟩, hb2⟩
    · cases e
      exact ⟨Nat.le_refl _, (Array.getElem?_eq_some_iff.1 HG2.out).1⟩
    · cases e
      rw [Addr.add_lit, Nat.zero_add, cell_of_row w2 w.heap.size j _ 5 (0, 0) HG2.out]
      simpa using byteVals_at l j hj

end Go.Proofs.Qxb6604299aMods
