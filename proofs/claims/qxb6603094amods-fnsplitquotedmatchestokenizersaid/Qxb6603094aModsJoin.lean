/-
  Seat b6603094aM: FnSplitQuotedJoinRoundTrip (function 4): the walk.
-/
import Derived.Test.Qxb6603094aModsSplit
namespace Go.Proofs.Qxb6603094aMods
open Go.RowKit Plain

theorem bytesJoin_yes (s : ByteArray) (sep : Int) (w : World) (hs : s.size ≤ 1048576) :
    Calls Trym.prog 10 #[.string s, .int .u8 sep] w fun e w' => e = .returned (.bool true) ∧ w = w' := by
  have h1 : ¬ 1048576 < (s.size : Int) := by omega
  go_enter Trym.func10, Trym.ntmps10
  go_wp2
  go_ret
  exact ⟨rfl, rfl⟩

theorem bytesJoin_no (s : ByteArray) (sep : Int) (w : World) (h0 : s.size ≤ maxLen) (hs : ¬ s.size ≤ 1048576) :
    Calls Trym.prog 10 #[.string s, .int .u8 sep] w fun e w' => e = .returned (.bool false) ∧ w = w' := by
  unfold maxLen at h0
  have h1 : 1048576 < (s.size : Int) := by omega
  go_enter Trym.func10, Trym.ntmps10
  go_wp2
  go_ret
  exact ⟨rfl, rfl⟩

/-- Where the law stands ahead of round k. -/
def pos (R : List (Nat × Nat)) (k : Nat) : Nat := if k = 0 then 0 else (rangeAt R (k - 1)).2

theorem pos_zero {R : List (Nat × Nat)} : pos R 0 = 0 := rfl
theorem pos_succ {R : List (Nat × Nat)} {k : Nat} : pos R (k + 1) = (rangeAt R k).2 := by simp [pos]

theorem parts_at (s : ByteArray) (R : List (Nat × Nat)) (k : Nat) (h : k < R.length) : (parts s R)[k]? = some (.string (s.extract (rangeAt R k).1 (rangeAt R k).2)) := by
  simp [parts, part, rangeAt, List.getD, h]

/-- What splitQuoted leaves, its value written out. -/
theorem zzsplit_rows (s : ByteArray) (sep : Int) (w : World) (hs : s.size ≤ 1048576) :
    Calls Trym.prog 7 #[.string s, .int .u8 sep] w fun e w' => ∃ g cap, e = .returned (.slice (some ⟨g, 0, none⟩) (cuts s sep).length cap) ∧ w.heap.size ≤ g ∧ g < w'.heap.size ∧
      (∀ k, k < (cuts s sep).length → w'.cell? ⟨g, k, none⟩ = some (.string (s.extract (rangeAt (cuts s sep) k).1 (rangeAt (cuts s sep) k).2))) ∧ Below w.heap.size w w' := by
  refine (zzsplit_any s sep w hs).mono ?_
  rintro e w' ⟨v, rfl, hown, hb⟩
  have hp := (cuts_good s sep).some
  rcases hown.2 with ⟨_, h⟩ | ⟨g, cap, cur, rfl, hbg, hh, _⟩
  · omega
  · refine ⟨g, cap, rfl, hbg, (Array.getElem?_eq_some_iff.1 hh).1, fun k hk => ?_, hb⟩
    rw [hown.cellAt k (by omega)]
    exact parts_at s _ k hk

theorem extract_self (s : ByteArray) (a b : Nat) (h1 : a ≤ b) (h2 : b ≤ s.size) : (s.extract a b).size = b - a := by
  rw [ByteArray.size_extract]; omega

set_option maxHeartbeats 1600000 in
set_option maxRecDepth 1000000 in
theorem join_walk (s : ByteArray) (sep : Int) (w : World) (h0 : s.size ≤ maxLen) :
    Calls Trym.prog 4 #[.string s, .int .u8 sep] w fun e w' => e = .returned (.bool true) ∧ Below w.heap.size w w' := by
  by_cases hs : s.size ≤ 1048576
  · have G := cuts_good s sep
    have hp := G.some
    have hq : ¬ ((cuts s sep).length : Int) = 0 := by omega
    have hl : (cuts s sep).length ≤ s.size + 1 := cuts_length s sep
    go_enter Trym.func4, Trym.ntmps4
    go_wp2_with (first | (go_at_call 10; refine (bytesJoin_yes s sep _ hs).mono ?_; rintro e w' ⟨rfl, rfl⟩) | (go_at_call 7; refine (zzsplit_rows s sep _ hs).mono ?_; rintro e w1 ⟨g, cap, rfl, hg1, hg2, hcell, hb⟩))
    go_loop [6, 7] (fun p i => ∃ k : Nat, k ≤ (cuts s sep).length ∧ i = .int .i64 k ∧ p = .int .i64 (pos (cuts s sep) k)) (fun _ i => (cuts s sep).length - (intOf i).toNat)
    case atStart => exact ⟨0, Nat.zero_le _, rfl, rfl⟩
    case round =>
      obtain ⟨k, hk, rfl, rfl⟩ := hrel
      by_cases hlt : k < (cuts s sep).length
      · have hc := hcell k hlt
        have hle := G.le k hlt
        obtain ⟨p, hpp⟩ : ∃ p, p = s.extract (rangeAt (cuts s sep) k).1 (rangeAt (cuts s sep) k).2 := ⟨_, rfl⟩
        have hps : p.size = (rangeAt (cuts s sep) k).2 - (rangeAt (cuts s sep) k).1 := by rw [hpp]; exact extract_self _ _ _ hle.1 hle.2
        rw [← hpp] at hc
        by_cases hk0 : k = 0
        · subst hk0
          have ha := G.first
          have hx : ((s.extract 0 p.size).toList == p.toList) = true := by
            have : s.extract 0 p.size = p := by rw [hps, hpp, ha]; rfl
            rw [this]; simp
          have HN : Hid (pos (cuts s sep) (0 + 1) = p.size) := by show _ = _; rw [pos_succ]; omega
          have hap : p.size ≤ s.size := by omega
          rw [pos_zero]
          clear hpp hps hle hcell G ha
          go_wp2
          go_round
          case rel => exact ⟨1, by omega, by go_num, by rw [HN.out]⟩
          case measure => simp [intOf]; omega
        · obtain ⟨m, rfl⟩ : ∃ m, k = m + 1 := ⟨k - 1, by omega⟩
          have hst := G.step m hlt
          rw [pos_succ]
          obtain ⟨q, hq⟩ : ∃ q, q = (rangeAt (cuts s sep) m).2 := ⟨_, rfl⟩
          rw [← hq] at hst ⊢
          have hql := hst.1
          have hqs : (s[q].toNat : Int) = sep := by rw [← bt_at s q hql]; exact hst.2.1
          have hx : ((s.extract (q + 1) (q + 1 + p.size)).toList == p.toList) = true := by
            have : s.extract (q + 1) (q + 1 + p.size) = p := by
              rw [hps, hpp, hst.2.2]
              congr 1
              omega
            rw [this]; simp
          have HN : Hid (pos (cuts s sep) (m + 1 + 1) = q + 1 + p.size) := by show _ = _; rw [pos_succ]; omega
          have hap : q + 1 + p.size ≤ s.size := by omega
          clear hpp hps hle hcell G hst hq
          go_wp2
          refine ⟨⟨_, _, _, ⟨m + 1 + 1, by omega, rfl, rfl⟩, rfl, by rw [HN.out]; go_num, by go_num⟩, ?_⟩
          simp [intOf]; omega
      · have hkl : k = (cuts s sep).length := by omega
        have hpe : ((pos (cuts s sep) k : Nat) : Int) = (s.size : Int) := by
          obtain ⟨m, rfl⟩ : ∃ m, k = m + 1 := ⟨k - 1, by omega⟩
          rw [pos_succ, G.last m hkl]
        clear hkl
        go_wp2
        go_ret
        exact ⟨rfl, hb⟩
  · go_enter Trym.func4, Trym.ntmps4
    go_wp2_with (go_at_call 10; refine (bytesJoin_no s sep _ h0 hs).mono ?_; rintro e w' ⟨rfl, rfl⟩)
    go_ret
    exact ⟨rfl, Below.refl _ _⟩

end Go.Proofs.Qxb6603094aMods
