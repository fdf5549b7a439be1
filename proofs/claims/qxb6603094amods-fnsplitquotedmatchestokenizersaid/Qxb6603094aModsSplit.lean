/-
  Seat b6603094aM: the walk of splitQuoted (function 12) and of its exported twin (function 7).
-/
import Derived.Test.Qxb6603094aModsRows
import Derived.Test.Qxb6603094aModsPlain
import Derived.WalkKit
import Derived.WalkSpells
namespace Go.Proofs.Qxb6603094aMods
open Go.RowKit Plain

theorem Trym.info9 : (Trym.prog.info? 9).map (fun i => (i.zero, i.size, i.bytes)) = some (some (.string ByteArray.empty), 1, 16) := by kernel_rfl

/-- The value of a range. -/
def part (s : ByteArray) (p : Nat × Nat) : Value := .string (s.extract p.1 p.2)
def parts (s : ByteArray) (R : List (Nat × Nat)) : List Value := R.map (part s)
theorem parts_snoc (s : ByteArray) (R : List (Nat × Nat)) (a b : Nat) : parts s (R ++ [(a, b)]) = parts s R ++ [.string (s.extract a b)] := by simp [parts, part]
theorem parts_length (s : ByteArray) (R : List (Nat × Nat)) : (parts s R).length = R.length := by simp [parts]

set_option maxHeartbeats 1600000 in
set_option maxRecDepth 1000000 in
theorem split_any (s : ByteArray) (sep : Int) (w : World) (hs : s.size ≤ 1048576) :
    Calls Trym.prog 12 #[.string s, .int .u8 sep] w fun e w' => ∃ v, e = .returned v ∧ w'.ownsRow w.heap.size 9 1 v (cuts s sep).length (parts s (cuts s sep)) ∧ Below w.heap.size w w' := by
  obtain ⟨i0, hi, hz0, hz1, hz2⟩ := info_parts Trym.info9
  go_enter Trym.func12, Trym.ntmps12
  go_wp2
  go_loopw [5, 6, 7, 8] (fun v st q i wr => ∃ (k t : Nat) (b : Bool) (R : List (Nat × Nat)), t ≤ k ∧ t ≤ s.size ∧ k ≤ s.size + 1 ∧ R.length ≤ k ∧ st = .int .i64 t ∧ q = .bool b ∧ i = .int .i64 k ∧
      Hid (from_ s sep k t b R = cuts s sep) ∧ wr.ownsRow w.heap.size 9 1 v R.length (parts s R) ∧ Below w.heap.size w wr)
    (fun _ _ _ i _ => s.size + 1 - (intOf i).toNat)
  case atStart => exact ⟨0, 0, false, [], Nat.le_refl _, Nat.zero_le _, Nat.zero_le _, Nat.zero_le _, rfl, rfl, rfl, rfl, World.ownsRow_nil _ _ _ _, Below.refl _ _⟩
  case round =>
    obtain ⟨k, t, b, R, htk, hts, hks, hRk, rfl, rfl, rfl, HR, hown, hnx⟩ := hrel
    have hsz := hnx.size
    by_cases hlt : k < s.size
    · have hb := bt_at s k hlt
      have HB : Hid (bt s k = (s[k].toNat : Int)) := hb
      clear hb
      by_cases c1 : (s[k].toNat : Int) = 34
      · go_wp2
        go_roundw
        case rel => exact ⟨k + 1, t, !b, R, by omega, hts, by omega, by omega, rfl, rfl, by go_num, (from_quote hlt (HB.out.trans c1)).symm.trans HR.out, hown, hnx⟩
        case measure => simp [intOf]; omega
      have n1 : ¬ bt s k = 34 := by rw [HB.out]; exact c1
      by_cases c2 : (s[k].toNat : Int) = 92
      · cases b with
        | true =>
          go_wp2
          go_roundw
          case rel => exact ⟨k + 2, t, true, R, by omega, hts, by omega, by omega, rfl, rfl, by go_num, (from_slash_in hlt (HB.out.trans c2)).symm.trans HR.out, hown, hnx⟩
          case measure => simp [intOf]; omega
        | false =>
          go_wp2
          go_roundw
          case rel => exact ⟨k + 1, t, false, R, by omega, hts, by omega, by omega, rfl, rfl, by go_num, (from_slash_out hlt (HB.out.trans c2)).symm.trans HR.out, hown, hnx⟩
          case measure => simp [intOf]; omega
      have n2 : ¬ bt s k = 92 := by rw [HB.out]; exact c2
      by_cases c3 : (s[k].toNat : Int) = sep
      · cases b with
        | true =>
          go_wp2
          go_roundw
          case rel => exact ⟨k + 1, t, true, R, by omega, hts, by omega, by omega, rfl, rfl, by go_num, (from_pass hlt n1 n2 (by simp)).symm.trans HR.out, hown, hnx⟩
          case measure => simp [intOf]; omega
        | false =>
          have N1 : Hid (¬ bt s k = 34) := n1
          have N2 : Hid (¬ bt s k = 92) := n2
          have C3 : Hid (bt s k = sep) := HB.out.trans c3
          clear n1 n2
          go_wp2_with (at_builtin; refine wpList_append_own _ rfl _ _ 23 rfl w.heap.size 9 i0 (.string ByteArray.empty) 1 16 Trym.underlying23 hi hz0 hz1 hz2 rfl (by decide) _ _ _ rfl (hown.alloc _) ⟨wr.heap.size, 0, none⟩ 1 1 [.string (s.extract t k)] rfl rfl (cell_one_new _ _ _) ?c2 ?c3 ?c4 ?c5 ?_)
          case c2 => intro u hu; simp at hu; subst hu; rfl
          case c3 => unfold maxLen; omega
          case c4 => omega
          case c5 => simp; omega
          intro v' w1 hown' hgrow _
          have hb1 := (hnx.alloc (by omega) _).grown hgrow (by simp; omega) (fun g hg => (hown.lt g hg).1)
          clear hown hgrow hnx
          go_wp2
          go_roundw
          case rel => exact ⟨k + 1, k + 1, false, R ++ [(t, k)], by omega, by omega, by omega, by simp; omega, by go_num, rfl, by go_num, (from_cut hlt N1.out N2.out C3.out).symm.trans HR.out, by rw [parts_snoc, List.length_append]; exact hown', hb1⟩
          case measure => simp [intOf]; omega
      · go_wp2
        go_roundw
        case rel => exact ⟨k + 1, t, b, R, by omega, hts, by omega, by omega, rfl, rfl, by go_num, (from_pass hlt n1 n2 (by rw [HB.out]; exact fun h => c3 h.1)).symm.trans HR.out, hown, hnx⟩
        case measure => simp [intOf]; omega
    · have hE := (from_end (sep := sep) (st := t) (q := b) (acc := R) (show s.size ≤ k by omega)).symm.trans HR.out
      have HE : Hid (R ++ [(t, s.size)] = cuts s sep) := hE
      clear hE
      go_wp2_with (at_builtin; refine wpList_append_own _ rfl _ _ 23 rfl w.heap.size 9 i0 (.string ByteArray.empty) 1 16 Trym.underlying23 hi hz0 hz1 hz2 rfl (by decide) _ _ _ rfl (hown.alloc _) ⟨wr.heap.size, 0, none⟩ 1 1 [.string (s.extract t s.size)] rfl rfl (cell_one_new _ _ _) ?d2 ?d3 ?d4 ?d5 ?_)
      case d2 => intro u hu; simp at hu; subst hu; rfl
      case d3 => unfold maxLen; omega
      case d4 => omega
      case d5 => simp; omega
      intro v' w1 hown' hgrow _
      have hb1 := (hnx.alloc (by omega) _).grown hgrow (by simp; omega) (fun g hg => (hown.lt g hg).1)
      clear hown hgrow hnx
      go_wp2
      go_ret
      exact ⟨_, rfl, by rw [← HE.out, parts_snoc, List.length_append]; exact hown', hb1⟩

theorem zzsplit_any (s : ByteArray) (sep : Int) (w : World) (hs : s.size ≤ 1048576) :
    Calls Trym.prog 7 #[.string s, .int .u8 sep] w fun e w' => ∃ v, e = .returned v ∧ w'.ownsRow w.heap.size 9 1 v (cuts s sep).length (parts s (cuts s sep)) ∧ Below w.heap.size w w' := by
  go_enter Trym.func7, Trym.ntmps7
  go_wp2_with (go_at_call 12; refine (split_any s sep _ hs).mono ?_; rintro e w' ⟨v, rfl, hown, hb⟩)
  go_ret
  exact ⟨_, rfl, hown, hb⟩

end Go.Proofs.Qxb6603094aMods
