/-
  Seat b6604299aM: FnTextScriptInternsEachText (function 3): the walk.
-/
import Derived.Test.Qxb6604299aModsClone
import Derived.Test.Qxb6604299aModsMap
namespace Go.Proofs.Qxb6604299aMods
open Go.RowKit Go.WideMaps Go.Maps
set_option linter.unusedVariables false

theorem Rws.below {w w' : World} {lo b off n : Nat} {A : Nat → Option Addr} {C : Nat → Nat} {T : Nat → List UInt8} (h : Rws w lo b off n A C T) (hb : Below w.heap.size w w') : Rws w' lo b off n A C T :=
  ⟨fun h0 => Nat.lt_of_lt_of_le (h.lt h0) hb.size, fun r hr => (hb.cell (p := ⟨b, off + r, none⟩) (h.lt (by omega))).trans (h.cell r hr), fun r hr => (h.txt r hr).below hb⟩

theorem law_large {e1 e2 : Nat} (h : ¬ (e1 ≤ 4096 ∧ e2 ≤ 4096)) : 4096 < (e1 : Int) ∨ (¬ 4096 < (e1 : Int) ∧ 4096 < (e2 : Int)) := by omega

/-- The table and the list of texts seen, ahead of round k. -/
structure Both (w2 wr : World) (k : Nat) (v : Value) (S : List (List UInt8)) (D : DataW Unit) : Prop where
  le : S.length ≤ k
  tab : Tab wr w2.heap.size k D
  inv : MInv D S
  own : wr.ownsRow (w2.heap.size + 1) 9 1 v S.length (strVals S)
  below : Below w2.heap.size w2 wr
  short : ∀ j (hj : j < S.length), (S[j]).length ≤ maxLen

theorem Both.start (w2 : World) : Both w2 (w2.alloc (.map #[] 0)) 0 (.slice none 0 0) [] (.map []) :=
  ⟨Nat.le_refl _, World.ownsMap_made _ _ _ _, MInv.start, World.ownsRow_nil _ _ _ _, (Below.refl _ _).alloc (Nat.le_refl _) _, fun j hj => by simp at hj⟩

theorem own_ne {w : World} {base e : Nat} {v : Value} {n : Nat} {xs : List Value} (h : w.ownsRow (base + 1) e 1 v n xs) : v.ownBlock = none ∨ v.ownBlock ≠ some base := by
  cases hv : v.ownBlock with
  | none => exact .inl rfl
  | some k => right; intro e; have := (h.lt k hv).1; cases e; omega

/-- Behind the call of text. -/
theorem Both.texted {w2 wr w4 : World} {k : Nat} {v : Value} {S S' : List (List UInt8)} {D D' : DataW Unit} (h : Both w2 wr k v S D) (ht : Tab w4 w2.heap.size (k + 1) D') (hi : MInv D' S') (hg : wr.grownBy w4 (some w2.heap.size)) :
    w4.ownsRow (w2.heap.size + 1) 9 1 v S.length (strVals S) ∧ Below w2.heap.size w2 w4 :=
  ⟨h.own.kept hg (own_ne h.own), h.below.grown hg h.below.size (fun g hk => by cases hk; exact Nat.le_refl _)⟩

theorem law_big_none (ao aF : Option Addr) (cap nF cF : Nat) (w : World) (hF : nF ≤ maxLen) (hbig : 4096 < (nF : Int)) :
    Calls Trym.prog 3 #[.slice ao 0 cap, .slice aF nF cF] w fun e w' => e = .returned (.bool true) ∧ w = w' := by
  go_enter Trym.func3, Trym.ntmps3
  go_wp2_with (go_at_call 4; refine (zzBytes_none ao aF cap nF cF _ hF).mono ?_; rintro e w' ⟨⟨r, rfl⟩, rfl⟩)
  all_goals
    go_ret
    exact ⟨rfl, rfl⟩

theorem law_big_some (lo b off n cap : Nat) (aF : Option Addr) (nF cF : Nat) (A : Nat → Option Addr) (C : Nat → Nat) (T : Nat → List UInt8) (w : World) (h : Rws w lo b off n A C T) (hn : n ≤ maxLen) (hF : nF ≤ maxLen) (hT : ∀ r, r < n → (T r).length ≤ maxLen)
    (hbig : ¬ (n ≤ 4096 ∧ nF ≤ 4096)) :
    Calls Trym.prog 3 #[.slice (some ⟨b, off, none⟩) n cap, .slice aF nF cF] w fun e w' => e = .returned (.bool true) ∧ w = w' := by
  rcases law_large hbig with h1 | ⟨h1, h2⟩
  all_goals
    have HH : Hid (Rws w lo b off n A C T) := h
    have HT : Hid (∀ r, r < n → (T r).length ≤ maxLen) := hT
    clear h hT
    go_enter Trym.func3, Trym.ntmps3
    go_wp2_with (go_at_call 4; refine (zzBytes_some lo b off n cap aF nF cF A C T _ HH.out hn hF HT.out).mono ?_; rintro e w' ⟨⟨r, rfl⟩, rfl⟩)
    all_goals
      go_ret
      exact ⟨rfl, rfl⟩

set_option maxHeartbeats 3200000 in
set_option maxRecDepth 1000000 in
theorem law_walk_ss (lo b off n cap : Nat) (bF oF nF cF : Nat) (F : Nat → Bool) (A : Nat → Option Addr) (C : Nat → Nat) (T : Nat → List UInt8) (w : World) (h : Rws w lo b off n A C T) (h0 : 0 < n) (hn : n ≤ 4096) (hF0 : 0 < nF) (hFlt : bF < w.heap.size) (hFc : ∀ r, r < nF → w.cell? ⟨bF, oF + r, none⟩ = some (.bool (F r))) (hF : nF ≤ 4096) (hT : ∀ r, r < n → (T r).length ≤ maxLen) :
    Calls Trym.prog 3 #[.slice (some ⟨b, off, none⟩) n cap, .slice (some ⟨bF, oF, none⟩) nF cF] w fun e w' => e = .returned (.bool true) ∧ Below w.heap.size w w' := by
  obtain ⟨i0, hi, hz0, hz1, hz2⟩ := info_parts Trym.info9
  have hmm := @run_makeMap Trym.prog
  have HH : Hid (Rws w lo b off n A C T) := h
  have HT : Hid (∀ r, r < n → (T r).length ≤ maxLen) := hT
  clear h hT
  have HFc : Hid (∀ r, r < nF → w.cell? ⟨bF, oF + r, none⟩ = some (.bool (F r))) := hFc
  clear hFc
  go_enter Trym.func3, Trym.ntmps3
  go_wp2_with (go_at_call 4; refine (zzBytes_some lo b off n cap (some ⟨bF, oF, none⟩) nF cF A C T _ HH.out (by unfold maxLen; omega) (by unfold maxLen; omega) HT.out).mono ?_; rintro e w' ⟨⟨r, rfl⟩, rfl⟩)
  · go_ret
    exact ⟨rfl, Below.refl _ _⟩
  go_loop [5, 6] (fun z i => ∃ k X : Nat, k ≤ n ∧ i = .int .i64 k ∧ z = .int .i64 X ∧ X ≤ 1048576 ∧ Hid (∀ r, r < k → (T r).length ≤ 1048576)) (fun _ i => n - (intOf i).toNat)
  case atStart => exact ⟨0, 24 * n + nF, Nat.zero_le _, rfl, by go_num, by omega, fun r hr => absurd hr (by omega)⟩
  case round =>
    obtain ⟨k, X, hk, rfl, rfl, hX, HL⟩ := hrel
    by_cases hlt : k < n
    · have hc := HH.out.cell k hlt
      have hm := HT.out k hlt
      unfold maxLen at hm
      by_cases hbig : ((1048576 : Int) - (X : Int)) < ((T k).length : Int)
      · go_wp2
        go_ret
        exact ⟨rfl, Below.refl _ _⟩
      · go_wp2
        go_round
        case rel => exact ⟨k + 1, X + (T k).length, by omega, by go_num, by go_num, by omega, fun r hr => by
          by_cases e : r = k
          · subst e; omega
          · exact HL.out r (by omega)⟩
        case measure => simp [intOf]; omega
    · have HL' : Hid (∀ r, r < n → (T r).length ≤ 1048576) := fun r hr => HL.out r (by omega)
      clear HL HT
      go_wp2_with fail
      refine (cloneList_some lo b off n cap A C T _ HH.out h0 hn HL'.out).mono ?_
      rintro e w1 ⟨g, c1, A1, C1, rfl, hg1, hR1, hb1⟩
      have HR1 : Hid (Rws w1 w.heap.size g 0 n A1 C1 T) := hR1
      clear hR1
      go_wp2_with fail
      have hsz1 := hb1.size
      refine (cloneBools_some bF oF nF cF F _ (by omega) (fun r hr => (hb1.cell (p := ⟨bF, oF + r, none⟩) hFlt).trans (HFc.out r hr)) hF0 hF).mono ?_
      rintro e w2 ⟨gF, c2, rfl, hgF1, hgF2, hFc2, hb2⟩
      have HF2 : Hid (∀ r, r < nF → w2.cell? ⟨gF, r, none⟩ = some (.bool (F r))) := hFc2
      clear hFc2
      have HR2 : Hid (Rws w2 w.heap.size g 0 n A1 C1 T) := HR1.out.below hb2
      have hb12 : Below w.heap.size w w2 := hb1.trans (hb2.mono hb1.size)
      clear HR1 HH
      go_wp2
      go_loopw [8, 9] (fun v i wr => ∃ (k : Nat) (S : List (List UInt8)) (D : DataW Unit), k ≤ n ∧ i = .int .i64 k ∧ Hid (Both w2 wr k v S D)) (fun _ i _ => n - (intOf i).toNat)
      case atStart => exact ⟨0, [], .map [], Nat.zero_le _, rfl, Both.start w2⟩
      case round =>
        obtain ⟨k, S, D, hk, rfl, HB⟩ := hrel
        by_cases hlt : k < n
        · have hbs := HB.out.below.size
          have hg2 : g < w2.heap.size := HR2.out.lt h0
          have hcx : wr.cell? ⟨g, k, none⟩ = some (.slice (A1 k) (T k).length (C1 k)) := by
            have := (HB.out.below.cell (p := ⟨g, 0 + k, none⟩) hg2).trans (HR2.out.cell k hlt)
            simpa using this
          have htx : Txt wr w.heap.size (A1 k) (T k).length (T k) := (HR2.out.txt k hlt).below HB.out.below
          have kc := htx.convert (cap := C1 k)
          have HTx : Hid (Txt wr w.heap.size (A1 k) (T k).length (T k)) := htx
          have hTk := HL'.out k hlt
          clear htx
          by_cases hkF : k < nF
          · have hcf : wr.cell? ⟨gF, k, none⟩ = some (.bool (F k)) := (HB.out.below.cell (p := ⟨gF, k, none⟩) hgF2).trans (HF2.out k hkF)
            cases hfk : F k with
            | true =>
              rw [hfk] at hcf
              go_wp2_with (go_at_call 7; refine (text_any true (A1 k) (T k).length (C1 k) w.heap.size w2.heap.size k (T k) D S _ HTx.out hTk HB.out.tab (by omega) HB.out.inv).mono ?_; rintro e w4 ⟨rfl, D4, hD4, hI4, hg4⟩)
              obtain ⟨ho4, hb4⟩ := HB.out.texted hD4 hI4 hg4
              have hle := HB.out.le
              refine (index_any S u8 (w2.heap.size + 1) (T k) w4 ho4 (by omega)).mono ?_
              rintro e w5 ⟨r5, rfl, hr5, rfl⟩
              have hsz4 := hb4.size
              have hlt4 := hD4.lt
              by_cases hin : T k ∈ S
              · have hr6 : ¬ r5 < 0 := by have := hr5.1 hin; omega
                have HB4 : Hid (Both w2 w4 (k + 1) u8 S D4) := ⟨by omega, hD4, by simpa [seen, hin] using hI4, ho4, hb4, HB.out.short⟩
                clear hD4 hI4 hg4 ho4 hb4 hr5
                go_wp2
                go_roundw
                case rel => exact ⟨k + 1, S, D4, by omega, by go_num, HB4⟩
                case measure => simp [intOf]; omega
              · have hr6 : r5 < 0 := hr5.2 hin
                have HI4 : Hid (MInv D4 (S ++ [T k])) := by show MInv _ _; simpa [seen, hin] using hI4
                clear hI4 hg4 hr5
                go_wp2_with (at_builtin; refine wpList_append_own _ rfl _ _ 29 rfl (w2.heap.size + 1) 9 i0 (.string ByteArray.empty) 1 16 Trym.underlying29 hi hz0 hz1 hz2 rfl (by decide) _ _ _ rfl (ho4.alloc _) ⟨w4.heap.size, 0, none⟩ 1 1 [.string (bmk (T k))] rfl rfl (cell_one_new _ _ _) ?c2 ?c3 ?c4 ?c5 ?_)
                case c2 => intro u hu; simp at hu; subst hu; rfl
                case c3 => unfold maxLen; omega
                case c4 => omega
                case c5 => simp; omega
                intro v5 w5 hown5 hgrow5 _
                have HB5 : Hid (Both w2 w5 (k + 1) v5 (S ++ [T k]) D4) := by
                  refine ⟨by simp; omega, (hD4.alloc _).kept hgrow5 ?_, HI4.out, by rw [strVals_snoc, List.length_append]; exact hown5, (hb4.alloc (by omega) _).grown hgrow5 (by simp; omega) (fun g hg => by have := (ho4.lt g hg).1; omega), fun j hj => ?_⟩
                  · rcases own_ne ho4 with h | h
                    · rw [h]; simp
                    · exact fun e => h e.symm
                  · by_cases hj' : j < S.length
                    · rw [List.getElem_append_left hj']; exact HB.out.short j hj'
                    · rw [List.getElem_append_right (by omega)]; simp; unfold maxLen; omega
                clear hD4 ho4 hb4 hown5 hgrow5
                go_wp2
                go_roundw
                case rel => exact ⟨k + 1, S ++ [T k], D4, by omega, by go_num, HB5⟩
                case measure => simp [intOf]; omega
            | false =>
              rw [hfk] at hcf
              go_wp2_with (go_at_call 7; refine (text_any false (A1 k) (T k).length (C1 k) w.heap.size w2.heap.size k (T k) D S _ HTx.out hTk HB.out.tab (by omega) HB.out.inv).mono ?_; rintro e w4 ⟨rfl, D4, hD4, hI4, hg4⟩)
              have HB4 : Hid (Both w2 w4 (k + 1) u8 S D4) := ⟨by have := HB.out.le; omega, hD4, by simpa [seen] using hI4, (HB.out.texted hD4 hI4 hg4).1, (HB.out.texted hD4 hI4 hg4).2, HB.out.short⟩
              clear hD4 hI4 hg4
              go_wp2
              go_roundw
              case rel => exact ⟨k + 1, S, D4, by omega, by go_num, HB4⟩
              case measure => simp [intOf]; omega
          · have hkF' : decide (k < nF) = false := by simpa using hkF
            go_wp2_with (go_at_call 7; refine (text_any false (A1 k) (T k).length (C1 k) w.heap.size w2.heap.size k (T k) D S _ HTx.out hTk HB.out.tab (by omega) HB.out.inv).mono ?_; rintro e w4 ⟨rfl, D4, hD4, hI4, hg4⟩)
            have HB4 : Hid (Both w2 w4 (k + 1) u8 S D4) := ⟨by have := HB.out.le; omega, hD4, by simpa [seen] using hI4, (HB.out.texted hD4 hI4 hg4).1, (HB.out.texted hD4 hI4 hg4).2, HB.out.short⟩
            clear hD4 hI4 hg4
            go_wp2
            go_roundw
            case rel => exact ⟨k + 1, S, D4, by omega, by go_num, HB4⟩
            case measure => simp [intOf]; omega
        · have hbs := HB.out.below.size
          have hb := hb12.trans (HB.out.below.mono hb12.size)
          have hle := HB.out.le
          have hse : ((Maps.size D : Int)) = (S.length : Int) := by rw [HB.out.inv.size]
          rcases seen_shape HB.out.own with ⟨hS, ao, cs, rfl⟩ | ⟨hS, gs, cs, rfl, hgs1, hgs2, hcs⟩
          · subst hS
            go_wp2_with (at_len; refine wpList_len_own _ rfl _ 28 rfl 9 9 Trym.underlying28 (plainElem Trym.prog 9) w2.heap.size k D rfl HB.out.tab ?_)
            go_loop [12] (fun j => j = .int .i64 0) (fun _ => 0)
            case atStart => rfl
            case round =>
              subst hrel
              go_wp2
              go_ret
              exact ⟨rfl, hb⟩
          · have HC : Hid (∀ j (hj : j < S.length), wr.cell? ⟨gs, j, none⟩ = some (.string (bmk S[j]))) := hcs
            have HS : Hid (∀ j (hj : j < S.length), (S[j]).length ≤ maxLen) := HB.out.short
            clear hcs
            go_wp2_with (at_len; refine wpList_len_own _ rfl _ 28 rfl 9 9 Trym.underlying28 (plainElem Trym.prog 9) w2.heap.size k D rfl HB.out.tab ?_)
            go_loop [12] (fun j => ∃ m : Nat, m ≤ S.length ∧ j = .int .i64 m) (fun j => S.length - (intOf j).toNat)
            case atStart => exact ⟨0, Nat.zero_le _, rfl⟩
            case round =>
              obtain ⟨m, hm, rfl⟩ := hrel
              by_cases hlm : m < S.length
              · have e1 := HC.out m hlm
                obtain ⟨x, hx⟩ : ∃ x, x = S[m] := ⟨_, rfl⟩
                have hmem : x ∈ S := by rw [hx]; exact List.getElem_mem _
                have hsz : (bmk x).size ≤ maxLen := by rw [bmk_size, hx]; exact HS.out m hlm
                have hkey := keyS (bmk x) hsz
                rw [bmk_data] at hkey
                have hhas : Maps.has D (.string x) = true := by rw [HB.out.inv.has x]; simpa using hmem
                have hat := HB.out.inv.at_ x hmem
                rw [← hx] at e1
                clear hx
                go_wp2_with (at_lookup; refine wpList_lookup_ok_str _ rfl _ _ 28 rfl 9 9 law Trym.underlying28 Trym.underlying9 (zeroE _) w2.heap.size k D rfl HB.out.tab _ _ rfl hkey ?_; intro s hsat; obtain rfl : s = bmk x := (by rw [hat] at hsat; exact ByteArray.ext (Array.toList_inj.1 (by simpa [bmk] using hsat.symm))))
                go_round
                case rel => exact ⟨m + 1, by omega, by go_num⟩
                case measure => simp [intOf]; omega
              · go_wp2
                go_ret
                exact ⟨rfl, hb⟩

set_option maxHeartbeats 3200000 in
set_option maxRecDepth 1000000 in
theorem law_walk_sn (lo b off n cap : Nat) (aF : Option Addr) (cF : Nat) (A : Nat → Option Addr) (C : Nat → Nat) (T : Nat → List UInt8) (w : World) (h : Rws w lo b off n A C T) (h0 : 0 < n) (hn : n ≤ 4096) (hT : ∀ r, r < n → (T r).length ≤ maxLen) :
    Calls Trym.prog 3 #[.slice (some ⟨b, off, none⟩) n cap, .slice aF 0 cF] w fun e w' => e = .returned (.bool true) ∧ Below w.heap.size w w' := by
  obtain ⟨i0, hi, hz0, hz1, hz2⟩ := info_parts Trym.info9
  have hmm := @run_makeMap Trym.prog
  have HH : Hid (Rws w lo b off n A C T) := h
  have HT : Hid (∀ r, r < n → (T r).length ≤ maxLen) := hT
  clear h hT
  go_enter Trym.func3, Trym.ntmps3
  go_wp2_with (go_at_call 4; refine (zzBytes_some lo b off n cap aF 0 cF A C T _ HH.out (by unfold maxLen; omega) (by unfold maxLen; omega) HT.out).mono ?_; rintro e w' ⟨⟨r, rfl⟩, rfl⟩)
  · go_ret
    exact ⟨rfl, Below.refl _ _⟩
  go_loop [5, 6] (fun z i => ∃ k X : Nat, k ≤ n ∧ i = .int .i64 k ∧ z = .int .i64 X ∧ X ≤ 1048576 ∧ Hid (∀ r, r < k → (T r).length ≤ 1048576)) (fun _ i => n - (intOf i).toNat)
  case atStart => exact ⟨0, 24 * n + 0, Nat.zero_le _, rfl, by go_num, by omega, fun r hr => absurd hr (by omega)⟩
  case round =>
    obtain ⟨k, X, hk, rfl, rfl, hX, HL⟩ := hrel
    by_cases hlt : k < n
    · have hc := HH.out.cell k hlt
      have hm := HT.out k hlt
      unfold maxLen at hm
      by_cases hbig : ((1048576 : Int) - (X : Int)) < ((T k).length : Int)
      · go_wp2
        go_ret
        exact ⟨rfl, Below.refl _ _⟩
      · go_wp2
        go_round
        case rel => exact ⟨k + 1, X + (T k).length, by omega, by go_num, by go_num, by omega, fun r hr => by
          by_cases e : r = k
          · subst e; omega
          · exact HL.out r (by omega)⟩
        case measure => simp [intOf]; omega
    · have HL' : Hid (∀ r, r < n → (T r).length ≤ 1048576) := fun r hr => HL.out r (by omega)
      clear HL HT
      go_wp2_with fail
      refine (cloneList_some lo b off n cap A C T _ HH.out h0 hn HL'.out).mono ?_
      rintro e w1 ⟨g, c1, A1, C1, rfl, hg1, hR1, hb1⟩
      have HR1 : Hid (Rws w1 w.heap.size g 0 n A1 C1 T) := hR1
      clear hR1
      go_wp2_with fail
      refine (cloneBools_none aF cF _).mono ?_
      rintro e w2 ⟨a2, c2, rfl, hb2⟩
      have HR2 : Hid (Rws w2 w.heap.size g 0 n A1 C1 T) := HR1.out.below hb2
      have hb12 : Below w.heap.size w w2 := hb1.trans (hb2.mono hb1.size)
      clear HR1 HH
      go_wp2
      go_loopw [8, 9] (fun v i wr => ∃ (k : Nat) (S : List (List UInt8)) (D : DataW Unit), k ≤ n ∧ i = .int .i64 k ∧ Hid (Both w2 wr k v S D)) (fun _ i _ => n - (intOf i).toNat)
      case atStart => exact ⟨0, [], .map [], Nat.zero_le _, rfl, Both.start w2⟩
      case round =>
        obtain ⟨k, S, D, hk, rfl, HB⟩ := hrel
        by_cases hlt : k < n
        · have hbs := HB.out.below.size
          have hg2 : g < w2.heap.size := HR2.out.lt h0
          have hcx : wr.cell? ⟨g, k, none⟩ = some (.slice (A1 k) (T k).length (C1 k)) := by
            have := (HB.out.below.cell (p := ⟨g, 0 + k, none⟩) hg2).trans (HR2.out.cell k hlt)
            simpa using this
          have htx : Txt wr w.heap.size (A1 k) (T k).length (T k) := (HR2.out.txt k hlt).below HB.out.below
          have kc := htx.convert (cap := C1 k)
          have HTx : Hid (Txt wr w.heap.size (A1 k) (T k).length (T k)) := htx
          have hTk := HL'.out k hlt
          clear htx
          go_wp2_with (go_at_call 7; refine (text_any false (A1 k) (T k).length (C1 k) w.heap.size w2.heap.size k (T k) D S _ HTx.out hTk HB.out.tab (by omega) HB.out.inv).mono ?_; rintro e w4 ⟨rfl, D4, hD4, hI4, hg4⟩)
          have HB4 : Hid (Both w2 w4 (k + 1) u8 S D4) := ⟨by have := HB.out.le; omega, hD4, by simpa [seen] using hI4, (HB.out.texted hD4 hI4 hg4).1, (HB.out.texted hD4 hI4 hg4).2, HB.out.short⟩
          clear hD4 hI4 hg4
          go_wp2
          go_roundw
          case rel => exact ⟨k + 1, S, D4, by omega, by go_num, HB4⟩
          case measure => simp [intOf]; omega
        · have hbs := HB.out.below.size
          have hb := hb12.trans (HB.out.below.mono hb12.size)
          have hle := HB.out.le
          have hse : ((Maps.size D : Int)) = (S.length : Int) := by rw [HB.out.inv.size]
          rcases seen_shape HB.out.own with ⟨hS, ao, cs, rfl⟩ | ⟨hS, gs, cs, rfl, hgs1, hgs2, hcs⟩
          · subst hS
            go_wp2_with (at_len; refine wpList_len_own _ rfl _ 28 rfl 9 9 Trym.underlying28 (plainElem Trym.prog 9) w2.heap.size k D rfl HB.out.tab ?_)
            go_loop [12] (fun j => j = .int .i64 0) (fun _ => 0)
            case atStart => rfl
            case round =>
              subst hrel
              go_wp2
              go_ret
              exact ⟨rfl, hb⟩
          · have HC : Hid (∀ j (hj : j < S.length), wr.cell? ⟨gs, j, none⟩ = some (.string (bmk S[j]))) := hcs
            have HS : Hid (∀ j (hj : j < S.length), (S[j]).length ≤ maxLen) := HB.out.short
            clear hcs
            go_wp2_with (at_len; refine wpList_len_own _ rfl _ 28 rfl 9 9 Trym.underlying28 (plainElem Trym.prog 9) w2.heap.size k D rfl HB.out.tab ?_)
            go_loop [12] (fun j => ∃ m : Nat, m ≤ S.length ∧ j = .int .i64 m) (fun j => S.length - (intOf j).toNat)
            case atStart => exact ⟨0, Nat.zero_le _, rfl⟩
            case round =>
              obtain ⟨m, hm, rfl⟩ := hrel
              by_cases hlm : m < S.length
              · have e1 := HC.out m hlm
                obtain ⟨x, hx⟩ : ∃ x, x = S[m] := ⟨_, rfl⟩
                have hmem : x ∈ S := by rw [hx]; exact List.getElem_mem _
                have hsz : (bmk x).size ≤ maxLen := by rw [bmk_size, hx]; exact HS.out m hlm
                have hkey := keyS (bmk x) hsz
                rw [bmk_data] at hkey
                have hhas : Maps.has D (.string x) = true := by rw [HB.out.inv.has x]; simpa using hmem
                have hat := HB.out.inv.at_ x hmem
                rw [← hx] at e1
                clear hx
                go_wp2_with (at_lookup; refine wpList_lookup_ok_str _ rfl _ _ 28 rfl 9 9 law Trym.underlying28 Trym.underlying9 (zeroE _) w2.heap.size k D rfl HB.out.tab _ _ rfl hkey ?_; intro s hsat; obtain rfl : s = bmk x := (by rw [hat] at hsat; exact ByteArray.ext (Array.toList_inj.1 (by simpa [bmk] using hsat.symm))))
                go_round
                case rel => exact ⟨m + 1, by omega, by go_num⟩
                case measure => simp [intOf]; omega
              · go_wp2
                go_ret
                exact ⟨rfl, hb⟩

set_option maxHeartbeats 1600000 in
set_option maxRecDepth 1000000 in
theorem law_walk_ns (ao : Option Addr) (cap : Nat) (bF oF nF cF : Nat) (F : Nat → Bool) (w : World) (hF0 : 0 < nF) (hFlt : bF < w.heap.size) (hFc : ∀ r, r < nF → w.cell? ⟨bF, oF + r, none⟩ = some (.bool (F r))) (hF : nF ≤ 4096) :
    Calls Trym.prog 3 #[.slice ao 0 cap, .slice (some ⟨bF, oF, none⟩) nF cF] w fun e w' => e = .returned (.bool true) ∧ Below w.heap.size w w' := by
  have hmm := @run_makeMap Trym.prog
  have HFc : Hid (∀ r, r < nF → w.cell? ⟨bF, oF + r, none⟩ = some (.bool (F r))) := hFc
  clear hFc
  go_enter Trym.func3, Trym.ntmps3
  go_wp2_with (go_at_call 4; refine (zzBytes_none ao (some ⟨bF, oF, none⟩) cap nF cF _ (by unfold maxLen; omega)).mono ?_; rintro e w' ⟨⟨r, rfl⟩, rfl⟩)
  · go_ret
    exact ⟨rfl, Below.refl _ _⟩
  go_loop [5, 6] (fun z i => (∃ X : Int, z = .int .i64 X) ∧ i = .int .i64 0) (fun _ _ => 0)
  case atStart => exact ⟨⟨_, rfl⟩, rfl⟩
  case round =>
    obtain ⟨⟨X, rfl⟩, rfl⟩ := hrel
    go_wp2_with fail
    refine (cloneList_none ao cap _).mono ?_
    rintro e w1 ⟨a1, c1, rfl, hb1⟩
    go_wp2_with fail
    have hsz1 := hb1.size
    refine (cloneBools_some bF oF nF cF F _ (by omega) (fun r hr => (hb1.cell (p := ⟨bF, oF + r, none⟩) hFlt).trans (HFc.out r hr)) hF0 hF).mono ?_
    rintro e w2 ⟨gF, c2, rfl, hgF1, hgF2, hFc2, hb2⟩
    clear hFc2
    have hb12 : Below w.heap.size w w2 := hb1.trans (hb2.mono hb1.size)
    have hb := hb12.alloc hb12.size (.map #[] 0)
    have htab : Tab (w2.alloc (.map #[] 0)) w2.heap.size 0 (.map []) := World.ownsMap_made _ _ _ _
    have HT : Hid (Tab (w2.alloc (.map #[] 0)) w2.heap.size 0 (.map [])) := htab
    clear htab
    go_wp2
    go_loop [8, 9] (fun v i => v = .slice none 0 0 ∧ i = .int .i64 0) (fun _ _ => 0)
    case atStart => exact ⟨rfl, rfl⟩
    case round =>
      obtain ⟨rfl, rfl⟩ := hrel
      have hse : ((Maps.size (.map [] : DataW Unit) : Int)) = 0 := rfl
      go_wp2_with (at_len; refine wpList_len_own _ rfl _ 28 rfl 9 9 Trym.underlying28 (plainElem Trym.prog 9) w2.heap.size 0 (.map [] : DataW Unit) rfl HT.out ?_)
      go_loop [12] (fun j => j = .int .i64 0) (fun _ => 0)
      case atStart => rfl
      case round =>
        subst hrel
        go_wp2
        go_ret
        exact ⟨rfl, hb⟩

set_option maxHeartbeats 1600000 in
set_option maxRecDepth 1000000 in
theorem law_walk_nn (ao : Option Addr) (cap : Nat) (aF : Option Addr) (cF : Nat) (w : World) :
    Calls Trym.prog 3 #[.slice ao 0 cap, .slice aF 0 cF] w fun e w' => e = .returned (.bool true) ∧ Below w.heap.size w w' := by
  have hmm := @run_makeMap Trym.prog
  go_enter Trym.func3, Trym.ntmps3
  go_wp2_with (go_at_call 4; refine (zzBytes_none ao aF cap 0 cF _ (by unfold maxLen; omega)).mono ?_; rintro e w' ⟨⟨r, rfl⟩, rfl⟩)
  · go_ret
    exact ⟨rfl, Below.refl _ _⟩
  go_loop [5, 6] (fun z i => (∃ X : Int, z = .int .i64 X) ∧ i = .int .i64 0) (fun _ _ => 0)
  case atStart => exact ⟨⟨_, rfl⟩, rfl⟩
  case round =>
    obtain ⟨⟨X, rfl⟩, rfl⟩ := hrel
    go_wp2_with fail
    refine (cloneList_none ao cap _).mono ?_
    rintro e w1 ⟨a1, c1, rfl, hb1⟩
    go_wp2_with fail
    refine (cloneBools_none aF cF _).mono ?_
    rintro e w2 ⟨a2, c2, rfl, hb2⟩
    have hb12 : Below w.heap.size w w2 := hb1.trans (hb2.mono hb1.size)
    have hb := hb12.alloc hb12.size (.map #[] 0)
    have htab : Tab (w2.alloc (.map #[] 0)) w2.heap.size 0 (.map []) := World.ownsMap_made _ _ _ _
    have HT : Hid (Tab (w2.alloc (.map #[] 0)) w2.heap.size 0 (.map [])) := htab
    clear htab
    go_wp2
    go_loop [8, 9] (fun v i => v = .slice none 0 0 ∧ i = .int .i64 0) (fun _ _ => 0)
    case atStart => exact ⟨rfl, rfl⟩
    case round =>
      obtain ⟨rfl, rfl⟩ := hrel
      have hse : ((Maps.size (.map [] : DataW Unit) : Int)) = 0 := rfl
      go_wp2_with (at_len; refine wpList_len_own _ rfl _ 28 rfl 9 9 Trym.underlying28 (plainElem Trym.prog 9) w2.heap.size 0 (.map [] : DataW Unit) rfl HT.out ?_)
      go_loop [12] (fun j => j = .int .i64 0) (fun _ => 0)
      case atStart => rfl
      case round =>
        subst hrel
        go_wp2
        go_ret
        exact ⟨rfl, hb⟩

end Go.Proofs.Qxb6604299aMods
