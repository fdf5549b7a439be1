/-
  Seat b6603298aM: FnWithinRelativeJoinsBack (function 4): the walk.
-/
import Derived.Test.Qxb6603298aModsWithin
namespace Go.Proofs.Qxb6603298aMods
open Go.RowKit Plain

theorem bytesBack_any (a b c : ByteArray) (w : World) (ha : a.size ≤ maxLen) (hb : b.size ≤ maxLen) (hc : c.size ≤ maxLen) :
    Calls Trym.prog 10 #[.string a, .string b, .string c] w fun e w' => (∃ r, e = .returned (.bool r)) ∧ w = w' := by
  unfold maxLen at ha hb hc
  go_enter Trym.func10, Trym.ntmps10
  go_wp2
  all_goals
    go_ret
    exact ⟨⟨_, rfl⟩, rfl⟩

theorem bytesBack_yes (a b c : ByteArray) (w : World) (ha : a.size ≤ 65536) (hb : b.size ≤ 65536) (hc : c.size ≤ 65536) :
    Calls Trym.prog 10 #[.string a, .string b, .string c] w fun e w' => e = .returned (.bool true) ∧ w = w' := by
  go_enter Trym.func10, Trym.ntmps10
  go_wp2
  go_ret
  exact ⟨rfl, rfl⟩

theorem big_false {a b c : ByteArray} (h : ¬ (a.size ≤ 65536 ∧ b.size ≤ 65536 ∧ c.size ≤ 65536)) : 65536 < (a.size : Int) ∨ (¬ 65536 < (a.size : Int) ∧ 65536 < (b.size : Int)) ∨ (¬ 65536 < (a.size : Int) ∧ ¬ 65536 < (b.size : Int) ∧ 65536 < (c.size : Int)) := by
  omega

set_option maxHeartbeats 800000 in
theorem back_big (a b c : ByteArray) (w : World) (ha : a.size ≤ maxLen) (hb : b.size ≤ maxLen) (hc : c.size ≤ maxLen) (h : ¬ (a.size ≤ 65536 ∧ b.size ≤ 65536 ∧ c.size ≤ 65536)) :
    Calls Trym.prog 4 #[.string a, .string b, .string c] w fun e w' => e = .returned (.bool true) ∧ w = w' := by
  rcases big_false h with h1 | ⟨h1, h2⟩ | ⟨h1, h2, h3⟩
  all_goals
    go_enter Trym.func4, Trym.ntmps4
    go_wp2_with (go_at_call 10; refine (bytesBack_any a b c _ ha hb hc).mono ?_; rintro e w' ⟨⟨r, rfl⟩, rfl⟩)
    all_goals
      go_ret
      exact ⟨rfl, rfl⟩

theorem rel_size (base p : ByteArray) : (rel base p).size ≤ p.size + 1 := by
  rw [← toList_size, ← toList_size p, rel_toList]
  unfold wi
  split
  · simp
  · split
    · simp
    · split
      · simp
      · simp
theorem joined_size (base p : ByteArray) : (joined base p).size ≤ base.size + p.size := by
  rw [← toList_size, ← toList_size p, ← toList_size base, joined_toList]
  unfold jn
  split
  · simp
  · split
    · simp
    · simp

theorem back_rel {base p : ByteArray} (hb : sf base.toList = true) (hp : sf p.toList = true) (h : isIn base p = true) : sf (rel base p).toList = true ∧ joined base (rel base p) = p := by
  have := wi_yes hb hp h
  refine ⟨by rw [rel_toList]; exact this.1, toList_inj ?_⟩
  rw [joined_toList, rel_toList]; exact this.2
theorem back_no {base p : ByteArray} (h : isIn base p = false) : rel base p = ByteArray.empty := by
  apply toList_inj
  rw [rel_toList, wi_no h, ByteArray.toList_eq]; rfl
theorem back_join {base c : ByteArray} (hc : sf c.toList = true) : rel base (joined base c) = c ∧ isIn base (joined base c) = true := by
  have := wi_join (base := base.toList) hc
  refine ⟨toList_inj ?_, ?_⟩
  · rw [rel_toList, joined_toList, this]
  · unfold isIn; rw [joined_toList, this]

set_option maxHeartbeats 1600000 in
theorem back_walk (a b c : ByteArray) (w : World) (ha : a.size ≤ maxLen) (hb : b.size ≤ maxLen) (hc : c.size ≤ maxLen) :
    Calls Trym.prog 4 #[.string a, .string b, .string c] w fun e w' => e = .returned (.bool true) ∧ w = w' := by
  by_cases h : a.size ≤ 65536 ∧ b.size ≤ 65536 ∧ c.size ≤ 65536
  rotate_left
  · exact back_big a b c w ha hb hc h
  obtain ⟨h1, h2, h3⟩ := h
  have g1 : a.size ≤ 200000 := by omega
  have g2 : b.size ≤ 200000 := by omega
  have g3 : c.size ≤ 200000 := by omega
  have g4 : (rel a b).size ≤ 200000 := by have := rel_size a b; omega
  have g5 : (joined a c).size ≤ 200000 := by have := joined_size a c; omega
  cases sa : sf a.toList with
  | false =>
    go_enter Trym.func4, Trym.ntmps4
    go_wp2_with (first | (go_at_call 10; refine (bytesBack_yes a b c _ h1 h2 h3).mono ?_; rintro e w' ⟨rfl, rfl⟩) | (go_at_call 7; refine (slash_any _ _ (by assumption)).mono ?_; rintro e w' ⟨rfl, rfl⟩))
    go_ret
    exact ⟨rfl, rfl⟩
  | true =>
  cases sb : sf b.toList with
  | false =>
    go_enter Trym.func4, Trym.ntmps4
    go_wp2_with (first | (go_at_call 10; refine (bytesBack_yes a b c _ h1 h2 h3).mono ?_; rintro e w' ⟨rfl, rfl⟩) | (go_at_call 7; refine (slash_any _ _ (by assumption)).mono ?_; rintro e w' ⟨rfl, rfl⟩))
    go_ret
    exact ⟨rfl, rfl⟩
  | true =>
  cases sc : sf c.toList with
  | false =>
    cases hi : isIn a b with
    | false =>
      have hr := back_no hi
      go_enter Trym.func4, Trym.ntmps4
      go_wp2_with (first | (go_at_call 10; refine (bytesBack_yes a b c _ h1 h2 h3).mono ?_; rintro e w' ⟨rfl, rfl⟩) | (go_at_call 7; refine (slash_any _ _ (by assumption)).mono ?_; rintro e w' ⟨rfl, rfl⟩) | (go_at_call 8; refine (within_any _ _ _ (by assumption) (by assumption)).mono ?_; rintro e w' ⟨rfl, rfl⟩))
      go_ret
      exact ⟨rfl, rfl⟩
    | true =>
      have hr := back_rel sa sb hi
      obtain ⟨hr1, hr2⟩ := hr
      go_enter Trym.func4, Trym.ntmps4
      go_wp2_with (first | (go_at_call 10; refine (bytesBack_yes a b c _ h1 h2 h3).mono ?_; rintro e w' ⟨rfl, rfl⟩) | (go_at_call 7; refine (slash_any _ _ (by assumption)).mono ?_; rintro e w' ⟨rfl, rfl⟩) | (go_at_call 8; refine (within_any _ _ _ (by assumption) (by assumption)).mono ?_; rintro e w' ⟨rfl, rfl⟩) | (go_at_call 11; refine (join_any _ _ _ (by assumption) (by assumption)).mono ?_; rintro e w' ⟨rfl, rfl⟩))
      go_ret
      exact ⟨rfl, rfl⟩
  | true =>
    obtain ⟨hj1, hj2⟩ := back_join (base := a) sc
    cases hi : isIn a b with
    | false =>
      have hr := back_no hi
      go_enter Trym.func4, Trym.ntmps4
      go_wp2_with (first | (go_at_call 10; refine (bytesBack_yes a b c _ h1 h2 h3).mono ?_; rintro e w' ⟨rfl, rfl⟩) | (go_at_call 7; refine (slash_any _ _ (by assumption)).mono ?_; rintro e w' ⟨rfl, rfl⟩) | (go_at_call 8; refine (within_any _ _ _ (by assumption) (by assumption)).mono ?_; rintro e w' ⟨rfl, rfl⟩) | (go_at_call 11; refine (join_any _ _ _ (by assumption) (by assumption)).mono ?_; rintro e w' ⟨rfl, rfl⟩))
      go_ret
      exact ⟨rfl, rfl⟩
    | true =>
      obtain ⟨hr1, hr2⟩ := back_rel sa sb hi
      go_enter Trym.func4, Trym.ntmps4
      go_wp2_with (first | (go_at_call 10; refine (bytesBack_yes a b c _ h1 h2 h3).mono ?_; rintro e w' ⟨rfl, rfl⟩) | (go_at_call 7; refine (slash_any _ _ (by assumption)).mono ?_; rintro e w' ⟨rfl, rfl⟩) | (go_at_call 8; refine (within_any _ _ _ (by assumption) (by assumption)).mono ?_; rintro e w' ⟨rfl, rfl⟩) | (go_at_call 11; refine (join_any _ _ _ (by assumption) (by assumption)).mono ?_; rintro e w' ⟨rfl, rfl⟩))
      go_ret
      exact ⟨rfl, rfl⟩

end Go.Proofs.Qxb6603298aMods
