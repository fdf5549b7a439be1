/-
  Seat b6603094aM: FnSplitQuotedMatchesTokenizer (function 3): tokenizeSplit (8), sameStrings (9), the law.
-/
import Derived.Test.Qxb6603094aModsJoin
import Derived.Deep.QuietTactic
import Derived.BigQuiet
namespace Go.Proofs.Qxb6603094aMods
open Go.RowKit Plain

theorem bytesTok_yes (s : ByteArray) (sep : Int) (w : World) (hs : s.size ≤ 1048576) :
    Calls Trym.prog 6 #[.string s, .int .u8 sep] w fun e w' => e = .returned (.bool true) ∧ w = w' := by
  have h1 : ¬ 1048576 < (s.size : Int) := by omega
  go_enter Trym.func6, Trym.ntmps6
  go_wp2
  go_ret
  exact ⟨rfl, rfl⟩

theorem bytesTok_no (s : ByteArray) (sep : Int) (w : World) (h0 : s.size ≤ maxLen) (hs : ¬ s.size ≤ 1048576) :
    Calls Trym.prog 6 #[.string s, .int .u8 sep] w fun e w' => e = .returned (.bool false) ∧ w = w' := by
  unfold maxLen at h0
  have h1 : 1048576 < (s.size : Int) := by omega
  go_enter Trym.func6, Trym.ntmps6
  go_wp2
  go_ret
  exact ⟨rfl, rfl⟩

set_option maxHeartbeats 1600000 in
set_option maxRecDepth 1000000 in
theorem tok_any (s : ByteArray) (sep : Int) (w : World) (hs : s.size ≤ 1048576) :
    Calls Trym.prog 8 #[.string s, .int .u8 sep] w fun e w' => ∃ v, e = .returned v ∧ w'.ownsRow w.heap.size 9 1 v (cuts s sep).length (parts s (cuts s sep)) ∧ Below w.heap.size w w' := by
  obtain ⟨i0, hi, hz0, hz1, hz2⟩ := info_parts Trym.info9
  have hmk : ∀ w, (Instr.makeSlice 23 (.int .i64 0) (.int .i64 1)).run Trym.prog w = .ok (.slice (some ⟨w.heap.size, 0, none⟩) 0 1) (w.alloc (.cells #[.string ByteArray.empty] 9)) := fun _ => by kernel_rfl
  go_enter Trym.func8, Trym.ntmps8
  go_wp2
  go_loopw [5, 6, 7] (fun v st i wr => ∃ (k t : Nat) (R : List (Nat × Nat)), t ≤ k ∧ t ≤ s.size ∧ k ≤ s.size + 2 ∧ R.length ≤ k ∧ st = .int .i64 t ∧ i = .int .i64 k ∧
      Hid (from_ s sep k t false R = cuts s sep) ∧ wr.ownsRow w.heap.size 9 1 v R.length (parts s R) ∧ Below w.heap.size w wr)
    (fun _ _ i _ => s.size + 2 - (intOf i).toNat)
  case atStart => exact ⟨0, 0, [], Nat.le_refl _, Nat.zero_le _, Nat.zero_le _, Nat.zero_le _, rfl, rfl, rfl, World.ownsRow_made _ _ _ (Nat.le_refl _) (by decide) rfl, (Below.refl _ _).alloc (Nat.le_refl _) _⟩
  case round =>
    obtain ⟨k, t, R, htk, hts, hks, hRk, rfl, rfl, HR, hown, hnx⟩ := hrel
    have hsz := hnx.size
    by_cases hlt : k < s.size
    · have hb := bt_at s k hlt
      have HB : Hid (bt s k = (s[k].toNat : Int)) := hb
      clear hb
      by_cases c1 : (s[k].toNat : Int) = 34
      · have HQ : Hid (from_ s sep (close s (k + 1) + 1) t false R = cuts s sep) := (tok_quote hlt (HB.out.trans c1)).symm.trans HR.out
        have hcb := close_bounds s s.size (k + 1) (by omega) (by omega)
        go_wp2
        go_loop [9] (fun j => ∃ m : Nat, k + 1 ≤ m ∧ m ≤ s.size + 1 ∧ j = .int .i64 m ∧ Hid (close s m = close s (k + 1))) (fun j => s.size + 2 - (intOf j).toNat)
        case atStart => exact ⟨k + 1, Nat.le_refl _, by omega, by go_num, rfl⟩
        case round =>
          obtain ⟨m, hkm, hms, rfl, HC⟩ := hrel
          by_cases hm : m < s.size
          · have HM : Hid (bt s m = (s[m].toNat : Int)) := bt_at s m hm
            by_cases d1 : (s[m].toNat : Int) = 34
            · have HE : Hid (m = close s (k + 1)) := (close_quote hm (HM.out.trans d1)).symm.trans HC.out
              go_wp2
              go_roundw
              case rel => exact ⟨m + 1, t, R, by omega, hts, by omega, by omega, rfl, by go_num, by rw [HE.out]; exact HQ, hown, hnx⟩
              case measure => simp [intOf]; omega
            · by_cases d2 : (s[m].toNat : Int) = 92
              · go_wp2
                go_round
                case rel => exact ⟨m + 2, by omega, by omega, by go_num, (close_slash hm (HM.out.trans d2)).symm.trans HC.out⟩
                case measure => simp [intOf]; omega
              · go_wp2
                go_round
                case rel => exact ⟨m + 1, by omega, by omega, by go_num, (close_pass hm (by rw [HM.out]; exact d1) (by rw [HM.out]; exact d2)).symm.trans HC.out⟩
                case measure => simp [intOf]; omega
          · have HE : Hid (m = close s (k + 1)) := (close_end (s := s) (j := m) (by omega)).symm.trans HC.out
            go_wp2
            go_roundw
            case rel => exact ⟨m + 1, t, R, by omega, hts, by omega, by omega, rfl, by go_num, by rw [HE.out]; exact HQ, hown, hnx⟩
            case measure => simp [intOf]; omega
      have n1 : ¬ bt s k = 34 := by rw [HB.out]; exact c1
      by_cases c3 : (s[k].toNat : Int) = sep
      · by_cases c4 : sep = 92
        · have HP : Hid (from_ s sep (k + 1) t false R = cuts s sep) := (tok_pass hlt n1 (.inr c4)).symm.trans HR.out
          go_wp2
          go_roundw
          case rel => exact ⟨k + 1, t, R, by omega, hts, by omega, by omega, rfl, by go_num, HP, hown, hnx⟩
          case measure => simp [intOf]; omega
        · have HP : Hid (from_ s sep (k + 1) (k + 1) false (R ++ [(t, k)]) = cuts s sep) := (tok_cut hlt n1 (HB.out.trans c3) c4).symm.trans HR.out
          clear n1
          go_wp2_with (at_builtin; refine wpList_append_own _ rfl _ _ 23 rfl w.heap.size 9 i0 (.string ByteArray.empty) 1 16 Trym.underlying23 hi hz0 hz1 hz2 rfl (by decide) _ _ _ rfl (hown.alloc _) ⟨wr.heap.size, 0, none⟩ 1 1 [.string (s.extract t k)] rfl rfl (cell_one_new _ _ _) ?c2 ?c3 ?c4 ?c5 ?_)
          case c2 => intro u hu; simp at hu; subst hu; rfl
          case c3 => unfold maxLen; omega
          case c4 => omega
          case c5 => simp; omega
          intro v' w1 hown' hgrow _
          have hb1 := (hnx.alloc (by omega) _).grown hgrow (by simp; omega) (fun g hg => (hown.lt g hg).1)
          clear hown hgrow hnx
          go_wp2
          go_roundw
          case rel => exact ⟨k + 1, k + 1, R ++ [(t, k)], by omega, by omega, by omega, by simp; omega, by go_num, by go_num, HP, by rw [parts_snoc, List.length_append]; exact hown', hb1⟩
          case measure => simp [intOf]; omega
      · have HP : Hid (from_ s sep (k + 1) t false R = cuts s sep) := (tok_pass hlt n1 (.inl (by rw [HB.out]; exact c3))).symm.trans HR.out
        go_wp2
        go_roundw
        case rel => exact ⟨k + 1, t, R, by omega, hts, by omega, by omega, rfl, by go_num, HP, hown, hnx⟩
        case measure => simp [intOf]; omega
    · have HE : Hid (R ++ [(t, s.size)] = cuts s sep) := (from_end (sep := sep) (st := t) (q := false) (acc := R) (show s.size ≤ k by omega)).symm.trans HR.out
      go_wp2_with (at_builtin; refine wpList_append_own _ rfl _ _ 23 rfl w.heap.size 9 i0 (.string ByteArray.empty) 1 16 Trym.underlying23 hi hz0 hz1 hz2 rfl (by decide) _ _ _ rfl (hown.alloc _) ⟨wr.heap.size, 0, none⟩ 1 1 [.string (s.extract t s.size)] rfl rfl (cell_one_new _ _ _) ?d2 ?d3 ?d4 ?d5 ?_)
      case d2 => intro u hu; simp at hu; subst hu; rfl
      case d3 => unfold maxLen; omega
      case d4 => omega
      case d5 => simp; omega
      intro v' w1 hown' hgrow _
      have hb1 := (hnx.alloc (by omega) _).grown hgrow (by simp; omega) (fun g hg => (hown.lt g hg).1)
      clear hown hgrow hnx
      go_wp2
      go_ret
      exact ⟨_, rfl, by rw [← HE.out, parts_snoc, List.length_append]; exact hown', hb1⟩

/-- What tokenizeSplit leaves, its value written out. -/
theorem tok_rows (s : ByteArray) (sep : Int) (w : World) (hs : s.size ≤ 1048576) :
    Calls Trym.prog 8 #[.string s, .int .u8 sep] w fun e w' => ∃ g cap, e = .returned (.slice (some ⟨g, 0, none⟩) (cuts s sep).length cap) ∧ w.heap.size ≤ g ∧ g < w'.heap.size ∧
      (∀ k, k < (cuts s sep).length → w'.cell? ⟨g, k, none⟩ = some (.string (s.extract (rangeAt (cuts s sep) k).1 (rangeAt (cuts s sep) k).2))) ∧ Below w.heap.size w w' := by
  refine (tok_any s sep w hs).mono ?_
  rintro e w' ⟨v, rfl, hown, hb⟩
  have hp := (cuts_good s sep).some
  rcases hown.2 with ⟨_, h⟩ | ⟨g, cap, cur, rfl, hbg, hh, _⟩
  · omega
  · refine ⟨g, cap, rfl, hbg, (Array.getElem?_eq_some_iff.1 hh).1, fun k hk => ?_, hb⟩
    rw [hown.cellAt k (by omega)]
    exact parts_at s _ k hk

/-- sameStrings at two rows that hold the same strings. -/
theorem same_any (n g1 c1 g2 c2 : Nat) (f : Nat → ByteArray) (w : World) (hn : n ≤ 2000000)
    (h1 : ∀ k, k < n → w.cell? ⟨g1, k, none⟩ = some (.string (f k))) (h2 : ∀ k, k < n → w.cell? ⟨g2, k, none⟩ = some (.string (f k))) :
    Calls Trym.prog 9 #[.slice (some ⟨g1, 0, none⟩) n c1, .slice (some ⟨g2, 0, none⟩) n c2] w fun e w' => e = .returned (.bool true) ∧ Below w.heap.size w w' := by
  go_enter Trym.func9, Trym.ntmps9
  go_wp2
  go_loopw [5] (fun i wr => ∃ k : Nat, k ≤ n ∧ i = .int .i64 k ∧ (∀ a, wr.cell? a = w.cell? a) ∧ Below w.heap.size w wr) (fun i _ => n - (intOf i).toNat)
  case atStart => exact ⟨0, Nat.zero_le _, rfl, fun _ => rfl, Below.refl _ _⟩
  case round =>
    obtain ⟨k, hk, rfl, hsame, hb⟩ := hrel
    by_cases hlt : k < n
    · have e1 : wr.cell? ⟨g1, k, none⟩ = some (.string (f k)) := (hsame _).trans (h1 k hlt)
      have e2 : wr.cell? ⟨g2, k, none⟩ = some (.string (f k)) := (hsame _).trans (h2 k hlt)
      have i1 : (0 : Int) ≤ (k : Int) := by omega
      have i2 : (k : Int) < (n : Int) := by omega
      have HS : Hid (∀ a, wr.cell? a = w.cell? a) := hsame
      clear hsame h1 h2
      go_wp2
      go_quiet (fail)
      go_wp2
      go_roundw
      case rel => exact ⟨k + 1, by omega, by go_num, fun a => HS.out a, hb.trans ⟨rfl, rfl, rfl, Nat.le_refl _, fun _ _ => rfl⟩⟩
      case measure => simp [intOf]; omega
    · go_wp2
      go_ret
      exact ⟨rfl, hb⟩

set_option maxHeartbeats 1600000 in
set_option maxRecDepth 1000000 in
theorem tok_walk (s : ByteArray) (sep : Int) (w : World) (h0 : s.size ≤ maxLen) :
    Calls Trym.prog 3 #[.string s, .int .u8 sep] w fun e w' => e = .returned (.bool true) ∧ Below w.heap.size w w' := by
  by_cases hs : s.size ≤ 1048576
  · have hl := cuts_length s sep
    go_enter Trym.func3, Trym.ntmps3
    go_wp2_with (first | (go_at_call 6; refine (bytesTok_yes s sep _ hs).mono ?_; rintro e w' ⟨rfl, rfl⟩) | (go_at_call 7; refine (zzsplit_rows s sep _ hs).mono ?_; rintro e w1 ⟨g, cap, rfl, hg1, hg2, hcell, hb⟩) | (go_at_call 8; refine (tok_rows s sep _ hs).mono ?_; rintro e w2 ⟨g', cap', rfl, hg3, hg4, hcell', hb'⟩))
    refine (same_any (cuts s sep).length g cap g' cap' (fun k => s.extract (rangeAt (cuts s sep) k).1 (rangeAt (cuts s sep) k).2) _ (by omega) (fun k hk => (hb'.cell (p := ⟨g, k, none⟩) hg2).trans (hcell k hk)) hcell').mono ?_
    rintro e w3 ⟨rfl, hb3⟩
    have h12 : Below w.heap.size w w2 := hb.trans (hb'.mono hb.size)
    have h13 : Below w.heap.size w w3 := h12.trans (hb3.mono h12.size)
    clear hcell hcell'
    go_wp2
    go_ret
    exact ⟨rfl, h13⟩
  · go_enter Trym.func3, Trym.ntmps3
    go_wp2_with (go_at_call 6; refine (bytesTok_no s sep _ h0 hs).mono ?_; rintro e w' ⟨rfl, rfl⟩)
    go_ret
    exact ⟨rfl, Below.refl _ _⟩

end Go.Proofs.Qxb6603094aMods
