/-
  Seat b6605327aM: mergeKeys (17) and its exported twin (12).
-/
import Derived.Test.Qxb6605327aModsIndex
import Derived.Deep.AppendLies
namespace Go.Proofs.Qxb6605327aMods
open Go.RowKit Plain
set_option linter.unusedVariables false

def entVals (M : List (ByteArray × Nat × Int)) : List Value := M.flatMap fun e => [.string e.1, .pointer (some ⟨e.2.1, 0, none⟩)]
theorem entVals_snoc (M : List (ByteArray × Nat × Int)) (k : ByteArray) (p : Nat) (t : Int) : entVals (M ++ [(k, p, t)]) = entVals M ++ [.string k, .pointer (some ⟨p, 0, none⟩)] := by simp [entVals]
theorem entVals_length (M : List (ByteArray × Nat × Int)) : (entVals M).length = M.length * 2 := by
  induction M with
  | nil => rfl
  | cons x r ih => simp only [entVals, List.flatMap_cons, List.length_append] at ih ⊢; simp [ih]; omega

theorem drop_ent {X : List (ByteArray × Nat × Int)} {i : Nat} (h : i < X.length) : X.drop i = (ek X i, ep X i, et X i) :: X.drop (i + 1) := by
  have e : (X.getD i (ByteArray.empty, 0, 0)) = X[i] := by simp [List.getD, h]
  rw [List.drop_eq_getElem_cons h, ek, ep, et, e]

def sliceLen : Value → Nat
  | .slice _ n _ => n
  | _ => 0

/-- a[1:]. -/
theorem cut_one (g i l c : Nat) (hc : l + 1 ≤ c) : ∃ p : Addr, (0 < l → p = ⟨g, (i + 1) * 2, none⟩) ∧
    (∀ wx : World, (Instr.slice 26 (.slice (some ⟨g, i * 2, none⟩) (l + 1) c) (some (.int .i64 1)) none none).run Trym.prog wx = .ok (.slice (some p) l (c - 1)) wx) ∧
    ∀ wx : World, (Instr.sliceAt 26 (.slice (some ⟨g, i * 2, none⟩) (l + 1) c) (some (.int .i64 1)) none none).run Trym.prog wx = .ok (.slice (some p) l (c - 1)) wx := by
  obtain ⟨s, hs, hsz⟩ := Option.map_eq_some_iff.1 (show (Trym.prog.info? 52).map (·.size) = some 2 by kernel_rfl)
  have hu : Trym.prog.underlying 26 = some (.slice (Trym.prog.elem 26)) := by kernel_rfl
  have he : Trym.prog.elem 26 = 52 := by kernel_rfl
  have h1 : (1 : Int) ≤ ((l + 1 : Nat) : Int) := by omega
  have key : ∀ wx : World, (Instr.slice 26 (.slice (some ⟨g, i * 2, none⟩) (l + 1) c) (some (.int .i64 1)) none none).run Trym.prog wx = .ok (.slice (some (if c = 1 then ⟨g, i * 2, none⟩ else ⟨g, i * 2 + 2, none⟩)) l (c - 1)) wx := by
    intro wx
    rw [run_slice_l wx 26 (some ⟨g, i * 2, none⟩) (l + 1) c hu .i64 1 (by omega) h1, he]
    by_cases e : c = 1
    · simp [sizeOf, typeInfo, hs, hsz, sliced, e, Result.andThen]
    · simp [sizeOf, typeInfo, hs, hsz, sliced, e, Result.andThen, Addr.add_lit]
  refine ⟨if c = 1 then ⟨g, i * 2, none⟩ else ⟨g, i * 2 + 2, none⟩, fun h => by rw [if_neg (by omega)]; congr 1; omega, key, fun wx => ?_⟩
  rw [run_sliceAt_slice wx 26 _ _ _ _ hu]
  exact key wx

theorem below_draws {B : Nat} {w wr : World} (h : Below B w wr) (q : Nat) : Below B w (wr.drewN q) := h.trans ⟨rfl, rfl, rfl, Nat.le_refl _, fun _ _ => rfl⟩

/-- The merge so far. -/
structure MRel (w wr : World) (v : Value) (X Y M : List (ByteArray × Nat × Int)) (i j : Nat) : Prop where
  own : wr.ownsRow w.heap.size 52 2 v M.length (entVals M)
  full : v ≠ .slice none 0 0
  below : Below w.heap.size w wr
  len : M.length ≤ i + j
  rest : M ++ merge klt (X.drop i) (Y.drop j) = merge klt X Y

theorem entVals_get (M : List (ByteArray × Nat × Int)) : ∀ r, r < M.length → (entVals M)[r * 2]? = some (.string (ek M r)) ∧ (entVals M)[r * 2 + 1]? = some (.pointer (some ⟨ep M r, 0, none⟩)) := by
  induction M with
  | nil => intro r hr; simp at hr
  | cons x rest ih =>
    intro r hr
    have e : entVals (x :: rest) = .string x.1 :: .pointer (some ⟨x.2.1, 0, none⟩) :: entVals rest := by simp [entVals]
    cases r with
    | zero => simp [e, ek, ep]
    | succ r =>
      have := ih r (by simpa using hr)
      rw [e, show (r + 1) * 2 = r * 2 + 1 + 1 by omega, show r * 2 + 1 + 1 + 1 = (r * 2 + 1) + 1 + 1 by omega]
      simp only [List.getElem?_cons_succ]
      have e1 : ek (x :: rest) (r + 1) = ek rest r := by simp [ek]
      have e2 : ep (x :: rest) (r + 1) = ep rest r := by simp [ep]
      rw [e1, e2]; exact this

theorem ek_drop (X : List (ByteArray × Nat × Int)) (i r : Nat) : ek (X.drop i) r = ek X (i + r) ∧ ep (X.drop i) r = ep X (i + r) := by simp [ek, ep, List.getD]

/-- The cells of a[i:]. -/
theorem news_cells {w : World} {g : Nat} {X : List (ByteArray × Nat × Int)} (h : IRow w g 0 X) (i : Nat) : ∀ j u, (entVals (X.drop i))[j]? = some u → w.cell? ⟨g, i * 2 + j, none⟩ = some u := by
  intro j u hj
  have hl : j < (X.drop i).length * 2 := by rw [← entVals_length]; exact (List.getElem?_eq_some_iff.1 hj).1
  obtain ⟨r, hr⟩ : ∃ r, j = r * 2 ∨ j = r * 2 + 1 := ⟨j / 2, by omega⟩
  have hrl : r < (X.drop i).length := by omega
  have hrx : i + r < X.length := by rw [List.length_drop] at hrl; omega
  obtain ⟨g1, g2⟩ := entVals_get (X.drop i) r hrl
  rw [(ek_drop X i r).1] at g1
  rw [(ek_drop X i r).2] at g2
  rcases hr with rfl | rfl
  · rw [g1] at hj
    have := h.key (i + r) hrx
    rw [show 0 + (i + r) * 2 = i * 2 + r * 2 by omega] at this
    rw [this]; exact hj
  · rw [g2] at hj
    have := h.ptr (i + r) hrx
    rw [show 0 + (i + r) * 2 + 1 = i * 2 + (r * 2 + 1) by omega] at this
    rw [this]; exact hj

theorem entVals_one (M : List (ByteArray × Nat × Int)) : ∀ u ∈ entVals M, u.oneCell' = true := by
  intro u hu
  simp only [entVals, List.mem_flatMap, List.mem_cons, List.not_mem_nil, or_false] at hu
  obtain ⟨x, _, rfl | rfl⟩ := hu <;> rfl

/-- One entry more. -/
theorem MRel.push {w w3 w4 : World} {v v4 : Value} {X Y M : List (ByteArray × Nat × Int)} {i j i' j' : Nat} {k : ByteArray} {p : Nat} {t : Int} {o : Obj} (h : MRel w w3 v X Y M i j)
    (hown : w4.ownsRow w.heap.size 52 2 v4 (M.length + 1) (entVals M ++ [.string k, .pointer (some ⟨p, 0, none⟩)])) (hs : v4 ≠ .slice none 0 0) (hg : ((w3.alloc o).drew).grownBy w4 v.ownBlock)
    (hij : i + j + 1 ≤ i' + j') (hr : merge klt (X.drop i) (Y.drop j) = (k, p, t) :: merge klt (X.drop i') (Y.drop j')) : MRel w w4 v4 X Y (M ++ [(k, p, t)]) i' j' := by
  have hsz := h.below.size
  refine ⟨by rw [entVals_snoc, List.length_append]; exact hown, hs, ?_, by have := h.len; simp; omega, ?_⟩
  · exact (h.below.alloc hsz o).drew.grown hg (by simp; omega) (fun g hg => (h.own.lt g hg).1)
  · rw [← h.rest, hr]; simp

theorem merge_step_left {X Y : List (ByteArray × Nat × Int)} {i j : Nat} (hi : i < X.length) (hj : j < Y.length) (h : klt (ek X i) (ek Y j) = true) :
    merge klt (X.drop i) (Y.drop j) = (ek X i, ep X i, et X i) :: merge klt (X.drop (i + 1)) (Y.drop j) := by
  rw [drop_ent hi, drop_ent hj, merge_left (x := (ek X i, ep X i, et X i)) (y := (ek Y j, ep Y j, et Y j)) h]
theorem merge_step_right {X Y : List (ByteArray × Nat × Int)} {i j : Nat} (hi : i < X.length) (hj : j < Y.length) (h : klt (ek X i) (ek Y j) = false) (h2 : klt (ek Y j) (ek X i) = true) :
    merge klt (X.drop i) (Y.drop j) = (ek Y j, ep Y j, et Y j) :: merge klt (X.drop i) (Y.drop (j + 1)) := by
  rw [drop_ent hi, drop_ent hj, merge_right (x := (ek X i, ep X i, et X i)) (y := (ek Y j, ep Y j, et Y j)) h h2]
theorem merge_step_both {X Y : List (ByteArray × Nat × Int)} {i j : Nat} (hi : i < X.length) (hj : j < Y.length) (h : klt (ek X i) (ek Y j) = false) (h2 : klt (ek Y j) (ek X i) = false) :
    merge klt (X.drop i) (Y.drop j) = (ek Y j, ep Y j, et Y j) :: merge klt (X.drop (i + 1)) (Y.drop (j + 1)) := by
  rw [drop_ent hi, drop_ent hj, merge_both (x := (ek X i, ep X i, et X i)) (y := (ek Y j, ep Y j, et Y j)) h h2]

/-- What is handed back. -/
theorem merge_done {w w7 : World} {v7 : Value} {X Y M A B : List (ByteArray × Nat × Int)} {n : Nat} (hown : w7.ownsRow w.heap.size 52 2 v7 n (entVals M ++ entVals A ++ entVals B)) (hf : v7 ≠ .slice none 0 0) (he : M ++ (A ++ B) = merge klt X Y) :
    ∃ g c, v7 = .slice (some ⟨g, 0, none⟩) (merge klt X Y).length c ∧ (merge klt X Y).length ≤ c ∧ c ≤ maxLen ∧ IRow w7 g 0 (merge klt X Y) := by
  have hv : entVals M ++ entVals A ++ entVals B = entVals (merge klt X Y) := by rw [← he]; simp [entVals]
  rw [hv] at hown
  have hn : n = (merge klt X Y).length := by
    have := hown.1
    rw [entVals_length] at this
    omega
  subst hn
  rcases hown.2 with ⟨e, _⟩ | ⟨g, c, cur, rfl, hbg, hh, hle, hm, _⟩
  · exact absurd e hf
  · refine ⟨g, c, rfl, hle, hm, ⟨fun _ => (Array.getElem?_eq_some_iff.1 hh).1, fun r hr => ?_, fun r hr => ?_⟩⟩
    · rw [Nat.zero_add, hown.cellAt _ (by omega)]; exact (entVals_get _ r hr).1
    · rw [Nat.zero_add, hown.cellAt _ (by omega)]; exact (entVals_get _ r hr).2

set_option maxHeartbeats 3200000 in
set_option maxRecDepth 1000000 in
theorem merge_any (ga ca gb cb : Nat) (X Y : List (ByteArray × Nat × Int)) (w : World) (hX : IRow w ga 0 X) (hY : IRow w gb 0 Y) (hca : X.length ≤ ca) (hcb : Y.length ≤ cb) (hma : ca ≤ maxLen) (hmb : cb ≤ maxLen) (hn : X.length + Y.length ≤ 200000) :
    Calls Trym.prog 17 #[.slice (some ⟨ga, 0, none⟩) X.length ca, .slice (some ⟨gb, 0, none⟩) Y.length cb] w fun e w' => ∃ g c, e = .returned (.slice (some ⟨g, 0, none⟩) (merge klt X Y).length c) ∧ (merge klt X Y).length ≤ c ∧ c ≤ maxLen ∧ IRow w' g 0 (merge klt X Y) ∧ Below w.heap.size w w' := by
  obtain ⟨i0, hi, hz0, hz1, hz2⟩ := info_parts Trym.info52
  unfold maxLen at hma hmb
  have HX : Hid (IRow w ga 0 X) := hX
  have HY : Hid (IRow w gb 0 Y) := hY
  clear hX hY
  go_enter Trym.func17, Trym.ntmps17
  go_wp2_with (at_make; refine wpList_make_own _ rfl _ _ 26 rfl w.heap.size 52 i0 (.agg #[.string ByteArray.empty, .pointer none]) 2 Trym.underlying26 hi hz0 hz1 _ _ _ (X.length + Y.length) rfl rfl (by omega) ?m1 ?m2 ?m3 ?_)
  case m1 => rw [hz2]; omega
  case m2 => unfold maxLen; omega
  case m3 => exact Nat.le_refl _
  intro w1 hown1 hgrow1
  have hb1 : Below w.heap.size w w1 := (Below.refl _ _).grown hgrow1 (Nat.le_refl _) (fun k hk => by cases hk)
  have HM : Hid (MRel w w1 (.slice (some ⟨w.heap.size, 0, none⟩) 0 (X.length + Y.length)) X Y [] 0 0) := ⟨hown1, by simp, hb1, Nat.le_refl _, rfl⟩
  clear hown1 hgrow1 hb1
  go_wp2
  go_loopw [0, 1, 5] (fun va vb v wr => ∃ (i j la lb ca' cb' : Nat) (pa pb : Addr) (M : List (ByteArray × Nat × Int)), i + la = X.length ∧ j + lb = Y.length ∧ la ≤ ca' ∧ lb ≤ cb' ∧ ca' ≤ 9223372036854775807 ∧ cb' ≤ 9223372036854775807 ∧
      va = .slice (some pa) la ca' ∧ vb = .slice (some pb) lb cb' ∧ (0 < la → pa = ⟨ga, i * 2, none⟩) ∧ (0 < lb → pb = ⟨gb, j * 2, none⟩) ∧ Hid (MRel w wr v X Y M i j))
    (fun va vb _ _ => sliceLen va + sliceLen vb)
  case atStart => exact ⟨0, 0, X.length, Y.length, ca, cb, ⟨ga, 0, none⟩, ⟨gb, 0, none⟩, [], by omega, by omega, hca, hcb, hma, hmb, rfl, rfl, fun _ => by simp, fun _ => by simp, HM⟩
  case round =>
    obtain ⟨i, j, la, lb, ca', cb', pa, pb, M, hi1, hj1, hla, hlb, hcA, hcB, rfl, rfl, hpa, hpb, HR⟩ := hrel
    by_cases h0 : 0 < la ∧ 0 < lb
    · obtain ⟨l, rfl⟩ : ∃ l, la = l + 1 := ⟨la - 1, by omega⟩
      obtain ⟨m, rfl⟩ : ∃ m, lb = m + 1 := ⟨lb - 1, by omega⟩
      obtain rfl := hpa (by omega)
      obtain rfl := hpb (by omega)
      have hbl := HR.out.below
      have lga := HX.out.lt (by omega)
      have lgb := HY.out.lt (by omega)
      have a1 : wr.cell? ⟨ga, i * 2, none⟩ = some (.string (ek X i)) := by have := (hbl.cell (p := ⟨ga, 0 + i * 2, none⟩) lga).trans (HX.out.key i (by omega)); simpa using this
      have a2 : wr.cell? ⟨ga, i * 2 + 1, none⟩ = some (.pointer (some ⟨ep X i, 0, none⟩)) := by have := (hbl.cell (p := ⟨ga, 0 + i * 2 + 1, none⟩) lga).trans (HX.out.ptr i (by omega)); simpa using this
      have b1 : wr.cell? ⟨gb, j * 2, none⟩ = some (.string (ek Y j)) := by have := (hbl.cell (p := ⟨gb, 0 + j * 2, none⟩) lgb).trans (HY.out.key j (by omega)); simpa using this
      have b2 : wr.cell? ⟨gb, j * 2 + 1, none⟩ = some (.pointer (some ⟨ep Y j, 0, none⟩)) := by have := (hbl.cell (p := ⟨gb, 0 + j * 2 + 1, none⟩) lgb).trans (HY.out.ptr j (by omega)); simpa using this
      clear hbl hpa hpb
      obtain ⟨pa', hpa', hsA1, hsA2⟩ := cut_one ga i l ca' hla
      obtain ⟨pb', hpb', hsB1, hsB2⟩ := cut_one gb j m cb' hlb
      cases hb : klt (ek X i) (ek Y j) with
      | true =>
        have hb' : Op.bytesLess (ek X i).toList (ek Y j).toList = true := hb
        go_wp2
        go_quiet (fail)
        go_wp2
        have a1' : (wr.drewN nq).cell? ⟨ga, i * 2, none⟩ = some (.string (ek X i)) := a1
        have a2' : (wr.drewN nq).cell? ⟨ga, i * 2 + 1, none⟩ = some (.pointer (some ⟨ep X i, 0, none⟩)) := a2
        have HR' : Hid (MRel w (wr.drewN nq) u5 X Y M i j) := ⟨HR.out.own, HR.out.full, below_draws HR.out.below _, HR.out.len, HR.out.rest⟩
        clear a1 a2 b1 b2 HR
        generalize wr.drewN nq = w3 at a1' a2' HR' ⊢
        have hown := HR'.out.own
        have hle := HR'.out.len
        have hsz := HR'.out.below.size
        have lg3 : ga < w3.heap.size := World.block_lt_of_cell? w3 _ a1'
        have hne : u5.ownBlock ≠ some ga := fun e => by have := (hown.lt ga e).1; omega
        go_region_held3 (fun w' => w'.cell? ⟨ga, i * 2, none⟩ = some (.string (ek X i)) ∧ w'.cell? ⟨ga, i * 2 + 1, none⟩ = some (.pointer (some ⟨ep X i, 0, none⟩)))
          (first | (go_keep; done) | (go_split_ands; refine ⟨?_, ?_⟩ <;> (rw [hgrow.cell_far _ (by simp; omega) (Ne.symm hne)]; simp [World.cell?_alloc_lt, lg3, a1', a2'])))
          ((refine step_append_lies _ (by rfl) _ _ _ (by rfl) w.heap.size 52 i0 _ 2 24 Trym.underlying26 hi hz0 hz1 hz2 rfl (by omega) u5 M.length (entVals M) (by rfl) ((hown.alloc _).drew) ⟨w3.heap.size, 0, none⟩ 1 1 [.string (ek X i), .pointer (some ⟨ep X i, 0, none⟩)] (by rfl) (by rfl) (World.news_of_block (cs := #[.string (ek X i), .pointer (some ⟨ep X i, 0, none⟩)]) (t := 52) (fr := (0, 0)) (heap_alloc_new w3 _)) (by simp [Value.oneCell']) (by omega) (by unfold maxLen; omega) (by omega) (by simp; omega) (w3.heap.size + 1) (by simp) ?_; intro g4 c4 w4 hown4 hgrow hat4 hlt4))
        have HM4 : Hid (MRel w w4 (.slice (some ⟨g4, 0, none⟩) (M.length + 1) c4) X Y (M ++ [(ek X i, ep X i, et X i)]) (i + 1) j) := HR'.out.push hown4 (by simp) hgrow (by omega) (merge_step_left (by omega) (by omega) hb)
        clear hown4 hgrow hown
        go_wp2
        go_roundw
        case rel => exact ⟨i + 1, j, l, m + 1, ca' - 1, cb', pa', ⟨gb, j * 2, none⟩, M ++ [(ek X i, ep X i, et X i)], by omega, hj1, by omega, hlb, by omega, hcB, rfl, rfl, hpa', fun _ => rfl, HM4⟩
        case measure => simp [sliceLen]
      | false =>
        have hb' : Op.bytesLess (ek X i).toList (ek Y j).toList = false := hb
        cases hb2 : klt (ek Y j) (ek X i) with
        | true =>
          have hb2' : Op.bytesLess (ek Y j).toList (ek X i).toList = true := hb2
          go_wp2
          go_quiet (fail)
          go_wp2
          have qa1 : (wr.drewN nq).cell? ⟨ga, i * 2, none⟩ = some (.string (ek X i)) := a1
          have qb1 : (wr.drewN nq).cell? ⟨gb, j * 2, none⟩ = some (.string (ek Y j)) := b1
          have qb2 : (wr.drewN nq).cell? ⟨gb, j * 2 + 1, none⟩ = some (.pointer (some ⟨ep Y j, 0, none⟩)) := b2
          have QR : Hid (MRel w (wr.drewN nq) u5 X Y M i j) := ⟨HR.out.own, HR.out.full, below_draws HR.out.below _, HR.out.len, HR.out.rest⟩
          clear a1 a2 b1 b2 HR
          generalize wr.drewN nq = wq at qa1 qb1 qb2 QR ⊢
          clear nq
          go_quiet (fail)
          go_wp2
          have b1' : (wq.drewN nq).cell? ⟨gb, j * 2, none⟩ = some (.string (ek Y j)) := qb1
          have b2' : (wq.drewN nq).cell? ⟨gb, j * 2 + 1, none⟩ = some (.pointer (some ⟨ep Y j, 0, none⟩)) := qb2
          have HR' : Hid (MRel w (wq.drewN nq) u5 X Y M i j) := ⟨QR.out.own, QR.out.full, below_draws QR.out.below _, QR.out.len, QR.out.rest⟩
          clear qa1 qb1 qb2 QR
          generalize wq.drewN nq = w3 at b1' b2' HR' ⊢
          have hown := HR'.out.own
          have hle := HR'.out.len
          have hsz := HR'.out.below.size
          have lg3 : gb < w3.heap.size := World.block_lt_of_cell? w3 _ b1'
          have hne : u5.ownBlock ≠ some gb := fun e => by have := (hown.lt gb e).1; omega
          go_region_held3 (fun w' => w'.cell? ⟨gb, j * 2, none⟩ = some (.string (ek Y j)) ∧ w'.cell? ⟨gb, j * 2 + 1, none⟩ = some (.pointer (some ⟨ep Y j, 0, none⟩)))
            (first | (go_keep; done) | (go_split_ands; refine ⟨?_, ?_⟩ <;> (rw [hgrow.cell_far _ (by simp; omega) (Ne.symm hne)]; simp [World.cell?_alloc_lt, lg3, b1', b2'])))
            ((refine step_append_lies _ (by rfl) _ _ _ (by rfl) w.heap.size 52 i0 _ 2 24 Trym.underlying26 hi hz0 hz1 hz2 rfl (by omega) u5 M.length (entVals M) (by rfl) ((hown.alloc _).drew) ⟨w3.heap.size, 0, none⟩ 1 1 [.string (ek Y j), .pointer (some ⟨ep Y j, 0, none⟩)] (by rfl) (by rfl) (World.news_of_block (cs := #[.string (ek Y j), .pointer (some ⟨ep Y j, 0, none⟩)]) (t := 52) (fr := (0, 0)) (heap_alloc_new w3 _)) (by simp [Value.oneCell']) (by omega) (by unfold maxLen; omega) (by omega) (by simp; omega) (w3.heap.size + 1) (by simp) ?_; intro g4 c4 w4 hown4 hgrow hat4 hlt4))
          have HM4 : Hid (MRel w w4 (.slice (some ⟨g4, 0, none⟩) (M.length + 1) c4) X Y (M ++ [(ek Y j, ep Y j, et Y j)]) i (j + 1)) := HR'.out.push hown4 (by simp) hgrow (by omega) (merge_step_right (by omega) (by omega) hb hb2)
          clear hown4 hgrow hown
          go_wp2
          go_roundw
          case rel => exact ⟨i, j + 1, l + 1, m, ca', cb' - 1, ⟨ga, i * 2, none⟩, pb', M ++ [(ek Y j, ep Y j, et Y j)], hi1, by omega, hla, by omega, hcA, by omega, rfl, rfl, fun _ => rfl, hpb', HM4⟩
          case measure => simp [sliceLen]
        | false =>
          have hb2' : Op.bytesLess (ek Y j).toList (ek X i).toList = false := hb2
          go_wp2
          go_quiet (fail)
          go_wp2
          have qa1 : (wr.drewN nq).cell? ⟨ga, i * 2, none⟩ = some (.string (ek X i)) := a1
          have qb1 : (wr.drewN nq).cell? ⟨gb, j * 2, none⟩ = some (.string (ek Y j)) := b1
          have qb2 : (wr.drewN nq).cell? ⟨gb, j * 2 + 1, none⟩ = some (.pointer (some ⟨ep Y j, 0, none⟩)) := b2
          have QR : Hid (MRel w (wr.drewN nq) u5 X Y M i j) := ⟨HR.out.own, HR.out.full, below_draws HR.out.below _, HR.out.len, HR.out.rest⟩
          clear a1 a2 b1 b2 HR
          generalize wr.drewN nq = wq at qa1 qb1 qb2 QR ⊢
          clear nq
          go_quiet (fail)
          go_wp2
          have b1' : (wq.drewN nq).cell? ⟨gb, j * 2, none⟩ = some (.string (ek Y j)) := qb1
          have b2' : (wq.drewN nq).cell? ⟨gb, j * 2 + 1, none⟩ = some (.pointer (some ⟨ep Y j, 0, none⟩)) := qb2
          have HR' : Hid (MRel w (wq.drewN nq) u5 X Y M i j) := ⟨QR.out.own, QR.out.full, below_draws QR.out.below _, QR.out.len, QR.out.rest⟩
          clear qa1 qb1 qb2 QR
          generalize wq.drewN nq = w3 at b1' b2' HR' ⊢
          have hown := HR'.out.own
          have hle := HR'.out.len
          have hsz := HR'.out.below.size
          have lg3 : gb < w3.heap.size := World.block_lt_of_cell? w3 _ b1'
          have hne : u5.ownBlock ≠ some gb := fun e => by have := (hown.lt gb e).1; omega
          go_region_held3 (fun w' => w'.cell? ⟨gb, j * 2, none⟩ = some (.string (ek Y j)) ∧ w'.cell? ⟨gb, j * 2 + 1, none⟩ = some (.pointer (some ⟨ep Y j, 0, none⟩)))
            (first | (go_keep; done) | (go_split_ands; refine ⟨?_, ?_⟩ <;> (rw [hgrow.cell_far _ (by simp; omega) (Ne.symm hne)]; simp [World.cell?_alloc_lt, lg3, b1', b2'])))
            ((refine step_append_lies _ (by rfl) _ _ _ (by rfl) w.heap.size 52 i0 _ 2 24 Trym.underlying26 hi hz0 hz1 hz2 rfl (by omega) u5 M.length (entVals M) (by rfl) ((hown.alloc _).drew) ⟨w3.heap.size, 0, none⟩ 1 1 [.string (ek Y j), .pointer (some ⟨ep Y j, 0, none⟩)] (by rfl) (by rfl) (World.news_of_block (cs := #[.string (ek Y j), .pointer (some ⟨ep Y j, 0, none⟩)]) (t := 52) (fr := (0, 0)) (heap_alloc_new w3 _)) (by simp [Value.oneCell']) (by omega) (by unfold maxLen; omega) (by omega) (by simp; omega) (w3.heap.size + 1) (by simp) ?_; intro g4 c4 w4 hown4 hgrow hat4 hlt4))
          have HM4 : Hid (MRel w w4 (.slice (some ⟨g4, 0, none⟩) (M.length + 1) c4) X Y (M ++ [(ek Y j, ep Y j, et Y j)]) (i + 1) (j + 1)) := HR'.out.push hown4 (by simp) hgrow (by omega) (merge_step_both (by omega) (by omega) hb hb2)
          clear hown4 hgrow hown
          go_wp2
          go_roundw
          case rel => exact ⟨i + 1, j + 1, l, m, ca' - 1, cb' - 1, pa', pb', M ++ [(ek Y j, ep Y j, et Y j)], by omega, by omega, by omega, by omega, by omega, by omega, rfl, rfl, hpa', hpb', HM4⟩
          case measure => simp [sliceLen]; omega
    · have hR := HR.out
      have hbl := hR.below
      have hsz := hbl.size
      have hle := hR.len
      have hnA : ∀ jj u, (entVals (X.drop i))[jj]? = some u → wr.cell? (pa.add jj) = some u := by
        intro jj u hu
        have hl := (List.getElem?_eq_some_iff.1 hu).1
        rw [entVals_length, List.length_drop] at hl
        have hpos : 0 < la := by omega
        rw [hpa hpos, Addr.add_lit]
        exact (hbl.cell (p := ⟨ga, i * 2 + jj, none⟩) (HX.out.lt (by omega))).trans (news_cells HX.out i jj u hu)
      have hnB : ∀ (wx : World), Below w.heap.size w wx → ∀ jj u, (entVals (Y.drop j))[jj]? = some u → wx.cell? (pb.add jj) = some u := by
        intro wx hwx jj u hu
        have hl := (List.getElem?_eq_some_iff.1 hu).1
        rw [entVals_length, List.length_drop] at hl
        have hpos : 0 < lb := by omega
        rw [hpb hpos, Addr.add_lit]
        exact (hwx.cell (p := ⟨gb, j * 2 + jj, none⟩) (HY.out.lt (by omega))).trans (news_cells HY.out j jj u hu)
      have hlA : (entVals (X.drop i)).length = la * 2 := by rw [entVals_length, List.length_drop]; omega
      have hlB : (entVals (Y.drop j)).length = lb * 2 := by rw [entVals_length, List.length_drop]; omega
      have HE : Hid (M ++ (X.drop i ++ Y.drop j) = merge klt X Y) := by
        show _ = _
        rw [← hR.rest]
        by_cases e : la = 0
        · rw [List.drop_eq_nil_of_le (show X.length ≤ i by omega), merge_nil_left]; rfl
        · rw [List.drop_eq_nil_of_le (show Y.length ≤ j by omega), merge_nil_right, List.append_nil]
      have HA : Hid (∀ jj u, (entVals (X.drop i))[jj]? = some u → wr.cell? (pa.add jj) = some u) := hnA
      have HB : Hid (∀ (wx : World), Below w.heap.size w wx → ∀ jj u, (entVals (Y.drop j))[jj]? = some u → wx.cell? (pb.add jj) = some u) := hnB
      have HlA : Hid ((entVals (X.drop i)).length = la * 2) := hlA
      have HlB : Hid ((entVals (Y.drop j)).length = lb * 2) := hlB
      have HF : Hid (u5 ≠ .slice none 0 0) := hR.full
      have hown := hR.own
      clear hnA hnB hlA hlB hR HR hpa hpb
      have hz : ¬ (0 < la ∧ 0 < lb) := h0
      by_cases hla0 : 0 < la
      · have hlb0 : lb = 0 := by omega
        subst hlb0
        go_wp2_with (first | (at_builtin; refine wpList_append_own _ rfl (.tmp 64) (.tmp 65) 26 rfl w.heap.size 52 i0 (.agg #[.string ByteArray.empty, .pointer none]) 2 24 Trym.underlying26 hi hz0 hz1 hz2 rfl (by decide) u5 M.length (entVals M) rfl hown pa la ca' (entVals (X.drop i)) rfl HlA.out HA.out (entVals_one _) (by unfold maxLen; omega) (by omega) hsz ?_; intro v6 w6 hown6 hgrow6 hnil6; have hb6 := hbl.grown hgrow6 hsz (fun g hg => (hown.lt g hg).1); have hs6 := hb6.size) | (at_builtin; refine wpList_append_own _ rfl (.tmp 66) (.tmp 67) 26 rfl w.heap.size 52 i0 (.agg #[.string ByteArray.empty, .pointer none]) 2 24 Trym.underlying26 hi hz0 hz1 hz2 rfl (by decide) v6 (M.length + la) (entVals M ++ entVals (X.drop i)) rfl hown6 pb 0 cb' (entVals (Y.drop j)) rfl HlB.out (HB.out w6 hb6) (entVals_one _) (by unfold maxLen; omega) (by omega) hs6 ?_; intro v7 w7 hown7 hgrow7 hnil7; have hb7 := hb6.grown hgrow7 hs6 (fun g hg => (hown6.lt g hg).1)))
        have hf7 : v7 ≠ .slice none 0 0 := fun e => HF.out (hnil6.1 (hnil7.1 e).1).1
        obtain ⟨g7, c7, hv7, r1, r2, r3⟩ := merge_done hown7 hf7 HE.out
        go_ret
        refine ⟨g7, c7, ?_, r1, r2, r3, hb7⟩
        show Ending.returned v7 = _
        rw [hv7]
      · have hla1 : la = 0 := by omega
        subst hla1
        go_wp2_with (first | (at_builtin; refine wpList_append_own _ rfl (.tmp 64) (.tmp 65) 26 rfl w.heap.size 52 i0 (.agg #[.string ByteArray.empty, .pointer none]) 2 24 Trym.underlying26 hi hz0 hz1 hz2 rfl (by decide) u5 M.length (entVals M) rfl hown pa 0 ca' (entVals (X.drop i)) rfl HlA.out HA.out (entVals_one _) (by unfold maxLen; omega) (by omega) hsz ?_; intro v6 w6 hown6 hgrow6 hnil6; have hb6 := hbl.grown hgrow6 hsz (fun g hg => (hown.lt g hg).1); have hs6 := hb6.size) | (at_builtin; refine wpList_append_own _ rfl (.tmp 66) (.tmp 67) 26 rfl w.heap.size 52 i0 (.agg #[.string ByteArray.empty, .pointer none]) 2 24 Trym.underlying26 hi hz0 hz1 hz2 rfl (by decide) v6 (M.length + 0) (entVals M ++ entVals (X.drop i)) rfl hown6 pb lb cb' (entVals (Y.drop j)) rfl HlB.out (HB.out w6 hb6) (entVals_one _) (by unfold maxLen; omega) (by omega) hs6 ?_; intro v7 w7 hown7 hgrow7 hnil7; have hb7 := hb6.grown hgrow7 hs6 (fun g hg => (hown6.lt g hg).1)))
        have hf7 : v7 ≠ .slice none 0 0 := fun e => HF.out (hnil6.1 (hnil7.1 e).1).1
        obtain ⟨g7, c7, hv7, r1, r2, r3⟩ := merge_done hown7 hf7 HE.out
        go_ret
        refine ⟨g7, c7, ?_, r1, r2, r3, hb7⟩
        show Ending.returned v7 = _
        rw [hv7]

theorem zzmerge_any (ga ca gb cb : Nat) (X Y : List (ByteArray × Nat × Int)) (w : World) (hX : IRow w ga 0 X) (hY : IRow w gb 0 Y) (hca : X.length ≤ ca) (hcb : Y.length ≤ cb) (hma : ca ≤ maxLen) (hmb : cb ≤ maxLen) (hn : X.length + Y.length ≤ 200000) :
    Calls Trym.prog 12 #[.slice (some ⟨ga, 0, none⟩) X.length ca, .slice (some ⟨gb, 0, none⟩) Y.length cb] w fun e w' => ∃ g c, e = .returned (.slice (some ⟨g, 0, none⟩) (merge klt X Y).length c) ∧ (merge klt X Y).length ≤ c ∧ c ≤ maxLen ∧ IRow w' g 0 (merge klt X Y) ∧ Below w.heap.size w w' := by
  have HX : Hid (IRow w ga 0 X) := hX
  have HY : Hid (IRow w gb 0 Y) := hY
  clear hX hY
  go_enter Trym.func12, Trym.ntmps12
  go_wp2_with (go_at_call 17; refine (merge_any ga ca gb cb X Y _ HX.out HY.out hca hcb hma hmb hn).mono ?_; rintro e w' ⟨g, c, rfl, r1, r2, r3, r4⟩)
  go_ret
  exact ⟨g, c, rfl, r1, r2, r3, r4⟩

end Go.Proofs.Qxb6605327aMods
