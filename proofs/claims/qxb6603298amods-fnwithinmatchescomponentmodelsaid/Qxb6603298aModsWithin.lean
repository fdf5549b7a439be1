/-
  Seat b6603298aM: the walks of zzSlashForm (7), within (13) and its exported twin (8), zzJoin (11), CutPrefix (15, 16), HasPrefix (17).
-/
import Derived.Test.Qxb6603298aModsRows
import Derived.Test.Qxb6603298aModsPlain
import Derived.WalkKit
import Derived.WalkSpells
namespace Go.Proofs.Qxb6603298aMods
open Go.RowKit Plain

theorem toList_size (s : ByteArray) : s.toList.length = s.size := by rw [ByteArray.toList_eq]; exact Array.length_toList
theorem toList_at (s : ByteArray) (k : Nat) (h : k < s.size) : s.toList.drop k = s[k] :: s.toList.drop (k + 1) := by
  rw [ByteArray.toList_eq, List.drop_eq_getElem_cons (by rw [Array.length_toList]; exact h)]; rfl
theorem byte_eq {c : UInt8} {n : Nat} (hn : n < 256) (h : (c.toNat : Int) = n) : c = UInt8.ofNat n := by
  apply UInt8.toNat.inj
  simp; omega
theorem byte_slash {c : UInt8} (h : (c.toNat : Int) = 47) : c = 47 := byte_eq (n := 47) (by omega) h
theorem byte_noslash {c : UInt8} (h : ¬ (c.toNat : Int) = 47) : ¬ c = 47 := fun e => h (by rw [e]; rfl)

theorem sf_empty {s : ByteArray} (h : s.size = 0) : sf s.toList = false := by
  have : s.toList = [] := List.eq_nil_of_length_eq_zero (by rw [toList_size]; exact h)
  rw [this]; rfl
theorem sf_first {s : ByteArray} (h : 0 < s.size) (c : ¬ (s[0].toNat : Int) = 47) : sf s.toList = false := by
  have e := toList_at s 0 h
  rw [List.drop_zero] at e
  rw [e, sf]
  simp [byte_noslash c]
theorem sf_single {s : ByteArray} (h : s.size = 1) (c : (s[0].toNat : Int) = 47) : sf s.toList = true := by
  have e := toList_at s 0 (by omega)
  rw [List.drop_zero] at e
  have e2 : s.toList.drop (0 + 1) = [] := List.drop_eq_nil_of_le (by rw [toList_size]; omega)
  rw [e, e2, byte_slash c]; rfl
theorem sf_more {s : ByteArray} (h : 1 < s.size) (c : (s[0].toNat : Int) = 47) : sf s.toList = good true (s.toList.drop 1) := by
  have e := toList_at s 0 (by omega)
  rw [List.drop_zero] at e
  have hl : (s.toList.drop (0 + 1)).length = s.size - 1 := by rw [List.length_drop, toList_size]
  rw [e, byte_slash c, sf]
  cases hd : s.toList.drop (0 + 1) with
  | nil => rw [hd] at hl; simp at hl; omega
  | cons a r => simp

theorem good_end {s : ByteArray} (h : 1 < s.size) (c : (s[s.size - 1].toNat : Int) = 47) : good true (s.toList.drop 1) = false := by
  have e1 : (s.toList.drop 1).drop (s.size - 2) = [47] := by
    rw [List.drop_drop, show 1 + (s.size - 2) = s.size - 1 by omega, toList_at s (s.size - 1) (by omega), byte_slash c, List.drop_eq_nil_of_le (by rw [toList_size]; omega)]
  have hl := List.take_append_drop (s.size - 2) (s.toList.drop 1)
  rw [e1] at hl
  rw [← hl]
  exact good_last _ _

set_option maxHeartbeats 800000 in
theorem slash_any (s : ByteArray) (w : World) (hs : s.size ≤ 200000) :
    Calls Trym.prog 7 #[.string s] w fun e w' => e = .returned (.bool (sf s.toList)) ∧ w = w' := by
  by_cases h0 : s.size = 0
  · have hv := sf_empty h0
    rw [hv]
    clear hv
    go_enter Trym.func7, Trym.ntmps7
    go_wp2
    go_ret
    exact ⟨rfl, rfl⟩
  have h0' : 0 < s.size := by omega
  by_cases c0 : (s[0].toNat : Int) = 47
  · by_cases h1 : s.size = 1
    · have hv := sf_single h1 c0
      rw [hv]
      clear hv
      go_enter Trym.func7, Trym.ntmps7
      go_wp2
      go_ret
      exact ⟨rfl, rfl⟩
    have h1' : 1 < s.size := by omega
    have hv := sf_more h1' c0
    have h2 : s.size - 1 < s.size := by omega
    by_cases cl : (s[s.size - 1].toNat : Int) = 47
    · have hv2 := good_end h1' cl
      rw [hv, hv2]
      clear hv hv2
      go_enter Trym.func7, Trym.ntmps7
      go_wp2
      go_ret
      exact ⟨rfl, rfl⟩
    · rw [hv]
      obtain ⟨g, hg⟩ : ∃ g, g = good true (s.toList.drop 1) := ⟨_, rfl⟩
      rw [← hg]
      have HG : Hid (good true (s.toList.drop 1) = g) := hg.symm
      clear hv hg
      go_enter Trym.func7, Trym.ntmps7
      go_wp2
      go_loop [3] (fun i => ∃ k : Nat, 1 ≤ k ∧ k ≤ s.size ∧ i = .int .i64 k ∧ Hid (∀ h : k - 1 < s.size, good (s[k - 1] == 47) (s.toList.drop k) = g)) (fun i => s.size - (intOf i).toNat)
      case atStart => exact ⟨1, Nat.le_refl _, by omega, rfl, fun _ => by rw [show (s[0] == 47) = true from by rw [byte_slash c0]; rfl]; exact HG.out⟩
      case round =>
        obtain ⟨k, hk1, hks, rfl, HI⟩ := hrel
        by_cases hlt : k < s.size
        · have hk2 : k - 1 < s.size := by omega
          have i1 : ((k : Int) - 1) = ((k - 1 : Nat) : Int) := by omega
          by_cases d1 : (s[k].toNat : Int) = 47
          · by_cases d2 : (s[k - 1].toNat : Int) = 47
            · have hv : g = false := by
                have := HI.out hk2
                rw [toList_at s k hlt, byte_slash d1, byte_slash d2] at this
                rw [← this]; exact good_slash_true _
              subst hv
              go_wp2
              go_ret
              exact ⟨rfl, rfl⟩
            · have HJ : Hid (∀ h : k + 1 - 1 < s.size, good (s[k + 1 - 1] == 47) (s.toList.drop (k + 1)) = g) := by
                intro h
                have := HI.out hk2
                have e : (s[k - 1] == 47) = false := by simpa using byte_noslash d2
                rw [toList_at s k hlt, byte_slash d1, e, good_slash_false] at this
                have e2 : (s[k + 1 - 1] == 47) = true := by simpa using byte_slash d1
                rw [e2]; exact this
              go_wp2
              go_round
              case rel => exact ⟨k + 1, by omega, by omega, by go_num, HJ⟩
              case measure => simp [intOf]; omega
          · have HJ : Hid (∀ h : k + 1 - 1 < s.size, good (s[k + 1 - 1] == 47) (s.toList.drop (k + 1)) = g) := by
              intro h
              have := HI.out hk2
              rw [toList_at s k hlt, good_other _ _ _ (byte_noslash d1)] at this
              have e2 : (s[k + 1 - 1] == 47) = false := by simpa using byte_noslash d1
              rw [e2]; exact this
            go_wp2
            go_round
            case rel => exact ⟨k + 1, by omega, by omega, by go_num, HJ⟩
            case measure => simp [intOf]; omega
        · have hv : g = true := by
            have e : k = s.size := by omega
            subst e
            have := HI.out (by omega)
            rw [List.drop_eq_nil_of_le (by rw [toList_size]; exact Nat.le_refl _)] at this
            rw [← this]
            have e2 : (s[s.size - 1] == 47) = false := by simpa using byte_noslash cl
            rw [e2]; rfl
          subst hv
          go_wp2
          go_ret
          exact ⟨rfl, rfl⟩
  · have hv := sf_first h0' c0
    rw [hv]
    clear hv
    have c1 : ((s[0].toNat : Int) != 47) = true := by simpa using c0
    go_enter Trym.func7, Trym.ntmps7
    go_wp2
    go_ret
    exact ⟨rfl, rfl⟩

theorem toList_append (a b : ByteArray) : (a ++ b).toList = a.toList ++ b.toList := by
  rw [ByteArray.toList_eq, ByteArray.toList_eq, ByteArray.toList_eq, ByteArray.data_append, Array.toList_append]
theorem toList_extract (s : ByteArray) (a b : Nat) : (s.extract a b).toList = (s.toList.drop a).take (b - a) := by
  rw [ByteArray.toList_eq, ByteArray.toList_eq, ByteArray.data_extract, Array.toList_extract, List.extract_eq_take_drop]
theorem toList_inj {a b : ByteArray} (h : a.toList = b.toList) : a = b := by
  rw [ByteArray.toList_eq, ByteArray.toList_eq] at h
  exact ByteArray.ext (Array.toList_inj.1 h)

/-- HasPrefix. -/
theorem has_yes (s p : ByteArray) (w : World) (h : s.toList.take p.size = p.toList) :
    Calls Trym.prog 17 #[.string s, .string p] w fun e w' => e = .returned (.bool true) ∧ w = w' := by
  have hl : p.size ≤ s.size := by
    have := congrArg List.length h
    rw [List.length_take, toList_size, toList_size] at this
    omega
  have hx : ((s.extract 0 p.size).toList == p.toList) = true := by
    rw [toList_extract, List.drop_zero, Nat.sub_zero, h]; simp
  go_enter Trym.func17, Trym.ntmps17
  go_wp2
  go_ret
  exact ⟨rfl, rfl⟩
theorem has_no (s p : ByteArray) (w : World) (h : ¬ s.toList.take p.size = p.toList) :
    Calls Trym.prog 17 #[.string s, .string p] w fun e w' => e = .returned (.bool false) ∧ w = w' := by
  by_cases hl : p.size ≤ s.size
  · have hx : ((s.extract 0 p.size).toList == p.toList) = false := by
      rw [toList_extract, List.drop_zero, Nat.sub_zero]; simpa using h
    go_enter Trym.func17, Trym.ntmps17
    go_wp2
    go_ret
    exact ⟨rfl, rfl⟩
  · go_enter Trym.func17, Trym.ntmps17
    go_wp2
    go_ret
    exact ⟨rfl, rfl⟩

theorem cut_yes (s p : ByteArray) (w : World) (h : s.toList.take p.size = p.toList) :
    Calls Trym.prog 15 #[.string s, .string p] w fun e w' => e = .returned (.tuple #[.string (s.extract p.size s.size), .bool true]) ∧ w = w' := by
  have hl : p.size ≤ s.size := by
    have := congrArg List.length h
    rw [List.length_take, toList_size, toList_size] at this
    omega
  have H : Hid (s.toList.take p.size = p.toList) := h
  clear h
  go_enter Trym.func15, Trym.ntmps15
  go_wp2_with (first | (go_at_call 17; refine (has_yes s p _ H.out).mono ?_; rintro e w' ⟨rfl, rfl⟩) | go_in)
  go_ret2
  exact ⟨rfl, rfl⟩
theorem cut_no (s p : ByteArray) (w : World) (h : ¬ s.toList.take p.size = p.toList) :
    Calls Trym.prog 15 #[.string s, .string p] w fun e w' => e = .returned (.tuple #[.string s, .bool false]) ∧ w = w' := by
  have H : Hid (¬ s.toList.take p.size = p.toList) := h
  clear h
  go_enter Trym.func15, Trym.ntmps15
  go_wp2_with (first | (go_at_call 17; refine (has_no s p _ H.out).mono ?_; rintro e w' ⟨rfl, rfl⟩) | go_in)
  go_ret2
  exact ⟨rfl, rfl⟩

def slashS : ByteArray := ⟨#[47]⟩
theorem slashS_toList : slashS.toList = [47] := by rw [ByteArray.toList_eq]; rfl
theorem slashS_size : slashS.size = 1 := rfl

/-- within's two results. -/
def rel (base p : ByteArray) : ByteArray :=
  if base.toList = [47] then p else if p.toList = base.toList then slashS else if p.toList.take (base.size + 1) = base.toList ++ [47] then slashS ++ p.extract (base.size + 1) p.size else ByteArray.empty
def isIn (base p : ByteArray) : Bool := (wi base.toList p.toList).2

theorem rel_toList (base p : ByteArray) : (rel base p).toList = (wi base.toList p.toList).1 := by
  unfold rel wi
  by_cases a : base.toList = [47]
  · rw [if_pos a, if_pos a]
  rw [if_neg a, if_neg a]
  by_cases b : p.toList = base.toList
  · rw [if_pos b, if_pos b, slashS_toList]
  rw [if_neg b, if_neg b, toList_size]
  by_cases c : p.toList.take (base.size + 1) = base.toList ++ [47]
  · rw [if_pos c, if_pos c, toList_append, slashS_toList, toList_extract, List.take_of_length_le (by rw [List.length_drop, toList_size]; exact Nat.le_refl _)]
    rfl
  · rw [if_neg c, if_neg c, ByteArray.toList_eq]; rfl

/-- zzJoin's result. -/
def joined (base r : ByteArray) : ByteArray := if base.toList = [47] then r else if r.toList = [47] then base else base ++ r
theorem joined_toList (base r : ByteArray) : (joined base r).toList = jn base.toList r.toList := by
  unfold joined jn
  by_cases a : base.toList = [47]
  · rw [if_pos a, if_pos a]
  rw [if_neg a, if_neg a]
  by_cases b : r.toList = [47]
  · rw [if_pos b, if_pos b]
  rw [if_neg b, if_neg b, toList_append]

theorem join_any (base r : ByteArray) (w : World) (h1 : base.size ≤ 200000) (h2 : r.size ≤ 200000) :
    Calls Trym.prog 11 #[.string base, .string r] w fun e w' => e = .returned (.string (joined base r)) ∧ w = w' := by
  unfold joined
  by_cases a : base.toList = [47]
  · rw [if_pos a]
    go_enter Trym.func11, Trym.ntmps11
    go_wp2
    go_ret
    exact ⟨rfl, rfl⟩
  rw [if_neg a]
  have a' : (base.toList == [47]) = false := by simpa using a
  by_cases b : r.toList = [47]
  · rw [if_pos b]
    go_enter Trym.func11, Trym.ntmps11
    go_wp2
    go_ret
    exact ⟨rfl, rfl⟩
  rw [if_neg b]
  have b' : (r.toList == [47]) = false := by simpa using b
  go_enter Trym.func11, Trym.ntmps11
  go_wp2
  go_ret
  exact ⟨rfl, rfl⟩

theorem within_any (base p : ByteArray) (w : World) (h1 : base.size ≤ 200000) (h2 : p.size ≤ 200000) :
    Calls Trym.prog 8 #[.string base, .string p] w fun e w' => e = .returned (.tuple #[.string (rel base p), .bool (isIn base p)]) ∧ w = w' := by
  unfold rel isIn wi
  by_cases a : base.toList = [47]
  · rw [if_pos a, if_pos a]
    go_enter Trym.func8, Trym.ntmps8
    go_wp2
    go_ret2
    exact ⟨rfl, rfl⟩
  rw [if_neg a, if_neg a]
  have a' : (base.toList == [47]) = false := by simpa using a
  by_cases b : p.toList = base.toList
  · rw [if_pos b, if_pos b]
    go_enter Trym.func8, Trym.ntmps8
    go_wp2
    go_ret2
    exact ⟨rfl, rfl⟩
  rw [if_neg b, if_neg b, toList_size]
  have b' : (p.toList == base.toList) = false := by simpa using b
  have esz : (base ++ slashS).size = base.size + 1 := by rw [ByteArray.size_append]; rfl
  by_cases c : p.toList.take (base.size + 1) = base.toList ++ [47]
  · rw [if_pos c, if_pos c]
    have C : Hid (p.toList.take (base ++ slashS).size = (base ++ slashS).toList) := by show _ = _; rw [esz, toList_append, slashS_toList]; exact c
    have hx : p.extract (base ++ slashS).size p.size = p.extract (base.size + 1) p.size := by rw [esz]
    clear c a b
    go_enter Trym.func8, Trym.ntmps8
    go_wp2_with (first | (go_at_call 15; refine (cut_yes p (base ++ slashS) _ C.out).mono ?_; rintro e w' ⟨rfl, rfl⟩) | go_in)
    go_ret2
    exact ⟨rfl, rfl⟩
  · rw [if_neg c, if_neg c]
    have C : Hid (¬ p.toList.take (base ++ slashS).size = (base ++ slashS).toList) := by show ¬ _ = _; rw [esz, toList_append, slashS_toList]; exact c
    clear c a b
    go_enter Trym.func8, Trym.ntmps8
    go_wp2_with (first | (go_at_call 15; refine (cut_no p (base ++ slashS) _ C.out).mono ?_; rintro e w' ⟨rfl, rfl⟩) | go_in)
    go_ret2
    exact ⟨rfl, rfl⟩

end Go.Proofs.Qxb6603298aMods
