/-
  Seat b6605327aM: searching: mkSortedKeys (13), mkFind (14), mkFindKey (15); zzBytes (5, 16).
-/
import Derived.Test.Qxb6605327aModsBase
namespace Go.Proofs.Qxb6605327aMods
open Go.RowKit Plain
set_option linter.unusedVariables false

set_option maxHeartbeats 800000 in
theorem mkSortedKeys_any (g n cap : Nat) (f : Nat → ByteArray) (w : World) (h : StrRow w g n f) (hn : n ≤ 200000) (hI : Inc klt f n) :
    Calls Trym.prog 13 #[.slice (some ⟨g, 0, none⟩) n cap] w fun e w' => e = .returned (.bool true) ∧ Below w.heap.size w w' := by
  have HH : Hid (StrRow w g n f) := h
  have HI : Hid (Inc klt f n) := hI
  clear h hI
  go_enter Trym.func13, Trym.ntmps13
  go_wp2
  go_loopw [3] (fun i wr => ∃ m q : Nat, i = .int .i64 ((m : Int) + 1) ∧ (m + 1 ≤ n ∨ m = 0) ∧ wr = w.drewN q) (fun i _ => n + 1 - (intOf i).toNat)
  case atStart => exact ⟨0, 0, rfl, .inr rfl, rfl⟩
  case round =>
    obtain ⟨m, q, rfl, hm, rfl⟩ := hrel
    by_cases hlt : m + 1 < n
    · have e1 := HH.out.cell m (by omega)
      have e2 := HH.out.cell (m + 1) hlt
      have i1 : (m : Int) + 1 < (n : Int) := by omega
      have i2 : (0 : Int) ≤ (m : Int) + 1 := by omega
      have i3 : (m : Int) < (n : Int) := by omega
      have i4 : ((m : Int) + 1).toNat = m + 1 := by omega
      have hb' : Op.bytesLess (f m).toList (f (m + 1)).toList = true := HI.out m (m + 1) (by omega) hlt
      go_wp2
      go_quiet (fail)
      go_wp2
      go_roundw
      case rel => exact ⟨m + 1, q + nq, by go_num, by omega, by simp⟩
      case measure => simp [intOf]; omega
    · have i1 : ¬ (m : Int) + 1 < (n : Int) := by omega
      go_wp2
      go_ret
      exact ⟨rfl, below_drewN _⟩

set_option maxHeartbeats 1600000 in
theorem mkFindKey_yes (g n cap : Nat) (f : Nat → ByteArray) (k : ByteArray) (w : World) (h : StrRow w g n f) (hn : n ≤ 200000) (hI : Inc klt f n) (r : Nat) (hr : r < n) (hrk : f r = k) :
    Calls Trym.prog 15 #[.slice (some ⟨g, 0, none⟩) n cap, .string k] w fun e w' => e = .returned (.tuple #[.int .i64 (r : Int), .bool true]) ∧ w = w' := by
  have HH : Hid (StrRow w g n f) := h
  have HI : Hid (Inc klt f n) := hI
  have HR : Hid (f r = k) := hrk
  clear h hI hrk
  go_enter Trym.func15, Trym.ntmps15
  go_wp2
  go_loop [6, 7] (fun x y => ∃ lo hi : Nat, x = .int .i64 lo ∧ y = .int .i64 hi ∧ lo ≤ hi ∧ hi ≤ n ∧ Hid (Between klt f n k lo hi)) (fun x y => ((intOf y) - (intOf x)).toNat)
  case atStart => exact ⟨0, n, rfl, rfl, Nat.zero_le _, Nat.le_refl _, Between.start _ _ _ _⟩
  case round =>
    obtain ⟨lo, hi, rfl, rfl, hle, hhi, HB⟩ := hrel
    by_cases hlt : lo < hi
    · obtain ⟨m, hm⟩ : ∃ m : Nat, m = lo + (hi - lo) / 2 := ⟨_, rfl⟩
      have hm1 : lo ≤ m := by omega
      have hm2 : m < hi := by omega
      have hme : (lo : Int) + ((hi : Int) - (lo : Int)) / 2 = (m : Int) := by omega
      clear hm
      have hc := HH.out.cell m (by omega)
      cases hb : klt (f m) k with
      | true =>
        have hb' : Op.bytesLess (f m).toList k.toList = true := hb
        have HU : Hid (Between klt f n k (m + 1) hi) := HB.out.up kord HI.out hm1 hm2 hb
        clear hb
        go_wp2
        go_round
        case rel => exact ⟨m + 1, hi, by go_num, rfl, by omega, hhi, HU⟩
        case measure => simp [intOf]; omega
      | false =>
        have hb' : Op.bytesLess (f m).toList k.toList = false := hb
        have HU : Hid (Between klt f n k lo m) := HB.out.down kord HI.out hm1 hm2 hb
        clear hb
        go_wp2
        go_round
        case rel => exact ⟨lo, m, rfl, rfl, hm1, by omega, HU⟩
        case measure => simp [intOf]; omega
    · have he : hi = lo := by omega
      subst he
      have hrr : hi = r := HB.out.found kord HI.out hr HR.out
      subst hrr
      have hc := HH.out.cell hi (hr)
      have hq : (f hi).toList = k.toList := by rw [HR.out]
      go_wp2
      go_ret2
      exact ⟨rfl, rfl⟩

set_option maxHeartbeats 1600000 in
theorem mkFindKey_no (g n cap : Nat) (f : Nat → ByteArray) (k : ByteArray) (w : World) (h : StrRow w g n f) (hn : n ≤ 200000) (hI : Inc klt f n) (hno : ∀ r, r < n → ¬ f r = k) :
    Calls Trym.prog 15 #[.slice (some ⟨g, 0, none⟩) n cap, .string k] w fun e w' => e = .returned (.tuple #[.int .i64 0, .bool false]) ∧ w = w' := by
  have HH : Hid (StrRow w g n f) := h
  have HI : Hid (Inc klt f n) := hI
  have HR : Hid (∀ r, r < n → ¬ f r = k) := hno
  clear h hI hno
  go_enter Trym.func15, Trym.ntmps15
  go_wp2
  go_loop [6, 7] (fun x y => ∃ lo hi : Nat, x = .int .i64 lo ∧ y = .int .i64 hi ∧ lo ≤ hi ∧ hi ≤ n ∧ Hid (Between klt f n k lo hi)) (fun x y => ((intOf y) - (intOf x)).toNat)
  case atStart => exact ⟨0, n, rfl, rfl, Nat.zero_le _, Nat.le_refl _, Between.start _ _ _ _⟩
  case round =>
    obtain ⟨lo, hi, rfl, rfl, hle, hhi, HB⟩ := hrel
    by_cases hlt : lo < hi
    · obtain ⟨m, hm⟩ : ∃ m : Nat, m = lo + (hi - lo) / 2 := ⟨_, rfl⟩
      have hm1 : lo ≤ m := by omega
      have hm2 : m < hi := by omega
      have hme : (lo : Int) + ((hi : Int) - (lo : Int)) / 2 = (m : Int) := by omega
      clear hm
      have hc := HH.out.cell m (by omega)
      cases hb : klt (f m) k with
      | true =>
        have hb' : Op.bytesLess (f m).toList k.toList = true := hb
        have HU : Hid (Between klt f n k (m + 1) hi) := HB.out.up kord HI.out hm1 hm2 hb
        clear hb
        go_wp2
        go_round
        case rel => exact ⟨m + 1, hi, by go_num, rfl, by omega, hhi, HU⟩
        case measure => simp [intOf]; omega
      | false =>
        have hb' : Op.bytesLess (f m).toList k.toList = false := hb
        have HU : Hid (Between klt f n k lo m) := HB.out.down kord HI.out hm1 hm2 hb
        clear hb
        go_wp2
        go_round
        case rel => exact ⟨lo, m, rfl, rfl, hm1, by omega, HU⟩
        case measure => simp [intOf]; omega
    · have he : hi = lo := by omega
      subst he
      by_cases hln : hi < n
      · have hq : ((f hi).toList == k.toList) = false := by
          have := HR.out hi hln
          simp only [beq_eq_false_iff_ne, ne_eq]
          exact fun e => this (toList_inj e)
        have hc := HH.out.cell hi (hln)
        go_wp2
        go_ret2
        exact ⟨rfl, rfl⟩
      · go_wp2
        go_ret2
        exact ⟨rfl, rfl⟩

set_option maxHeartbeats 1600000 in
theorem mkFind_yes (ao : Option Addr) (E : List (ByteArray × Int)) (b off cap : Nat) (k : ByteArray) (w : World) (h : Arg w ao E b off) (hn : E.length ≤ 200000) (hI : Inc klt (ky E) E.length) (r : Nat) (hr : r < E.length) (hrk : ky E r = k) :
    Calls Trym.prog 14 #[.slice ao E.length cap, .string k] w fun e w' => e = .returned (.tuple #[.int .i64 (r : Int), .bool true]) ∧ w = w' := by
  have HH : Hid (Arg w ao E b off) := h
  have HI : Hid (Inc klt (ky E) E.length) := hI
  have HR : Hid (ky E r = k) := hrk
  clear h hI hrk
  go_enter Trym.func14, Trym.ntmps14
  go_wp2
  go_loop [6, 7] (fun x y => ∃ lo hi : Nat, x = .int .i64 lo ∧ y = .int .i64 hi ∧ lo ≤ hi ∧ hi ≤ E.length ∧ Hid (Between klt (ky E) E.length k lo hi)) (fun x y => ((intOf y) - (intOf x)).toNat)
  case atStart => exact ⟨0, E.length, rfl, rfl, Nat.zero_le _, Nat.le_refl _, Between.start _ _ _ _⟩
  case round =>
    obtain ⟨lo, hi, rfl, rfl, hle, hhi, HB⟩ := hrel
    by_cases hlt : lo < hi
    · obtain ⟨m, hm⟩ : ∃ m : Nat, m = lo + (hi - lo) / 2 := ⟨_, rfl⟩
      have hm1 : lo ≤ m := by omega
      have hm2 : m < hi := by omega
      have hme : (lo : Int) + ((hi : Int) - (lo : Int)) / 2 = (m : Int) := by omega
      clear hm
      have hix := HH.out.index cap m (by omega)
      have hc := HH.out.key m (by omega)
      cases hb : klt (ky E m) k with
      | true =>
        have hb' : Op.bytesLess (ky E m).toList k.toList = true := hb
        have HU : Hid (Between klt (ky E) E.length k (m + 1) hi) := HB.out.up kord HI.out hm1 hm2 hb
        clear hb
        go_wp2
        go_round
        case rel => exact ⟨m + 1, hi, by go_num, rfl, by omega, hhi, HU⟩
        case measure => simp [intOf]; omega
      | false =>
        have hb' : Op.bytesLess (ky E m).toList k.toList = false := hb
        have HU : Hid (Between klt (ky E) E.length k lo m) := HB.out.down kord HI.out hm1 hm2 hb
        clear hb
        go_wp2
        go_round
        case rel => exact ⟨lo, m, rfl, rfl, hm1, by omega, HU⟩
        case measure => simp [intOf]; omega
    · have he : hi = lo := by omega
      subst he
      have hrr : hi = r := HB.out.found kord HI.out hr HR.out
      subst hrr
      have hix := HH.out.index cap hi (hr)
      have hc := HH.out.key hi (hr)
      have hq : (ky E hi).toList = k.toList := by rw [HR.out]
      go_wp2
      go_ret2
      exact ⟨rfl, rfl⟩

set_option maxHeartbeats 1600000 in
theorem mkFind_no (ao : Option Addr) (E : List (ByteArray × Int)) (b off cap : Nat) (k : ByteArray) (w : World) (h : Arg w ao E b off) (hn : E.length ≤ 200000) (hI : Inc klt (ky E) E.length) (hno : ∀ r, r < E.length → ¬ ky E r = k) :
    Calls Trym.prog 14 #[.slice ao E.length cap, .string k] w fun e w' => e = .returned (.tuple #[.int .i64 0, .bool false]) ∧ w = w' := by
  have HH : Hid (Arg w ao E b off) := h
  have HI : Hid (Inc klt (ky E) E.length) := hI
  have HR : Hid (∀ r, r < E.length → ¬ ky E r = k) := hno
  clear h hI hno
  go_enter Trym.func14, Trym.ntmps14
  go_wp2
  go_loop [6, 7] (fun x y => ∃ lo hi : Nat, x = .int .i64 lo ∧ y = .int .i64 hi ∧ lo ≤ hi ∧ hi ≤ E.length ∧ Hid (Between klt (ky E) E.length k lo hi)) (fun x y => ((intOf y) - (intOf x)).toNat)
  case atStart => exact ⟨0, E.length, rfl, rfl, Nat.zero_le _, Nat.le_refl _, Between.start _ _ _ _⟩
  case round =>
    obtain ⟨lo, hi, rfl, rfl, hle, hhi, HB⟩ := hrel
    by_cases hlt : lo < hi
    · obtain ⟨m, hm⟩ : ∃ m : Nat, m = lo + (hi - lo) / 2 := ⟨_, rfl⟩
      have hm1 : lo ≤ m := by omega
      have hm2 : m < hi := by omega
      have hme : (lo : Int) + ((hi : Int) - (lo : Int)) / 2 = (m : Int) := by omega
      clear hm
      have hix := HH.out.index cap m (by omega)
      have hc := HH.out.key m (by omega)
      cases hb : klt (ky E m) k with
      | true =>
        have hb' : Op.bytesLess (ky E m).toList k.toList = true := hb
        have HU : Hid (Between klt (ky E) E.length k (m + 1) hi) := HB.out.up kord HI.out hm1 hm2 hb
        clear hb
        go_wp2
        go_round
        case rel => exact ⟨m + 1, hi, by go_num, rfl, by omega, hhi, HU⟩
        case measure => simp [intOf]; omega
      | false =>
        have hb' : Op.bytesLess (ky E m).toList k.toList = false := hb
        have HU : Hid (Between klt (ky E) E.length k lo m) := HB.out.down kord HI.out hm1 hm2 hb
        clear hb
        go_wp2
        go_round
        case rel => exact ⟨lo, m, rfl, rfl, hm1, by omega, HU⟩
        case measure => simp [intOf]; omega
    · have he : hi = lo := by omega
      subst he
      by_cases hln : hi < E.length
      · have hq : ((ky E hi).toList == k.toList) = false := by
          have := HR.out hi hln
          simp only [beq_eq_false_iff_ne, ne_eq]
          exact fun e => this (toList_inj e)
        have hix := HH.out.index cap hi (hln)
        have hc := HH.out.key hi (hln)
        go_wp2
        go_ret2
        exact ⟨rfl, rfl⟩
      · go_wp2
        go_ret2
        exact ⟨rfl, rfl⟩


set_option maxHeartbeats 3200000 in
set_option maxRecDepth 1000000 in
theorem zzBytes5_any (a0 : Option Addr) (E0 : List (ByteArray × Int)) (b0 o0 c0 : Nat) (a1 : Option Addr) (E1 : List (ByteArray × Int)) (b1 o1 c1 : Nat) (w : World) (h0 : Arg w a0 E0 b0 o0) (n0 : E0.length ≤ maxLen) (k0 : ∀ r, r < E0.length → (ky E0 r).size ≤ maxLen) (h1 : Arg w a1 E1 b1 o1) (n1 : E1.length ≤ maxLen) (k1 : ∀ r, r < E1.length → (ky E1 r).size ≤ maxLen) :
    Calls Trym.prog 5 #[.slice a0 E0.length c0, .slice a1 E1.length c1] w fun e w' => Boolish e ∧ w = w' := by
  have H0 : Hid (Arg w a0 E0 b0 o0) := h0
  have K0 : Hid (∀ r, r < E0.length → (ky E0 r).size ≤ maxLen) := k0
  unfold maxLen at n0
  clear h0 k0
  have H1 : Hid (Arg w a1 E1 b1 o1) := h1
  have K1 : Hid (∀ r, r < E1.length → (ky E1 r).size ≤ maxLen) := k1
  unfold maxLen at n1
  clear h1 k1
  go_enter Trym.func5, Trym.ntmps5
  go_wp2
  all_goals first | (go_ret; exact ⟨Boolish.of rfl, rfl⟩) | skip
  go_loop [5, 6] (fun z i => ∃ k : Nat, (∃ x : Int, z = .int .i64 x) ∧ i = .int .i64 k ∧ k ≤ E0.length) (fun _ i => E0.length - (intOf i).toNat)
  case atStart => exact ⟨0, ⟨_, rfl⟩, rfl, Nat.zero_le _⟩
  case round =>
    obtain ⟨k, ⟨x, rfl⟩, rfl, hk⟩ := hrel
    by_cases hlt : k < E0.length
    · have hix := H0.out.index c0 k hlt
      have hc := H0.out.key k hlt
      have hm := K0.out k hlt
      unfold maxLen at hm
      go_wp2
      rotate_right
      · go_round
        case rel => exact ⟨k + 1, ⟨_, rfl⟩, by go_num, by omega⟩
        case measure => simp [intOf]; omega
      all_goals
        go_ret
        exact ⟨Boolish.of rfl, rfl⟩
    · go_wp2
      all_goals first | (go_ret; exact ⟨Boolish.of rfl, rfl⟩) | skip
      go_loop [5, 7] (fun z i => ∃ k : Nat, (∃ x : Int, z = .int .i64 x) ∧ i = .int .i64 k ∧ k ≤ E1.length) (fun _ i => E1.length - (intOf i).toNat)
      case atStart => exact ⟨0, ⟨_, rfl⟩, rfl, Nat.zero_le _⟩
      case round =>
        obtain ⟨k, ⟨x, rfl⟩, rfl, hk⟩ := hrel
        by_cases hlt : k < E1.length
        · have hix := H1.out.index c1 k hlt
          have hc := H1.out.key k hlt
          have hm := K1.out k hlt
          unfold maxLen at hm
          go_wp2
          rotate_right
          · go_round
            case rel => exact ⟨k + 1, ⟨_, rfl⟩, by go_num, by omega⟩
            case measure => simp [intOf]; omega
          all_goals
            go_ret
            exact ⟨Boolish.of rfl, rfl⟩
        · go_wp2
          all_goals
            go_ret
            exact ⟨Boolish.of rfl, rfl⟩

set_option maxHeartbeats 3200000 in
set_option maxRecDepth 1000000 in
theorem zzBytes16_any (a0 : Option Addr) (E0 : List (ByteArray × Int)) (b0 o0 c0 : Nat) (a1 : Option Addr) (E1 : List (ByteArray × Int)) (b1 o1 c1 : Nat) (a2 : Option Addr) (E2 : List (ByteArray × Int)) (b2 o2 c2 : Nat) (w : World) (h0 : Arg w a0 E0 b0 o0) (n0 : E0.length ≤ maxLen) (k0 : ∀ r, r < E0.length → (ky E0 r).size ≤ maxLen) (h1 : Arg w a1 E1 b1 o1) (n1 : E1.length ≤ maxLen) (k1 : ∀ r, r < E1.length → (ky E1 r).size ≤ maxLen) (h2 : Arg w a2 E2 b2 o2) (n2 : E2.length ≤ maxLen) (k2 : ∀ r, r < E2.length → (ky E2 r).size ≤ maxLen) :
    Calls Trym.prog 16 #[.slice a0 E0.length c0, .slice a1 E1.length c1, .slice a2 E2.length c2] w fun e w' => Boolish e ∧ w = w' := by
  have H0 : Hid (Arg w a0 E0 b0 o0) := h0
  have K0 : Hid (∀ r, r < E0.length → (ky E0 r).size ≤ maxLen) := k0
  unfold maxLen at n0
  clear h0 k0
  have H1 : Hid (Arg w a1 E1 b1 o1) := h1
  have K1 : Hid (∀ r, r < E1.length → (ky E1 r).size ≤ maxLen) := k1
  unfold maxLen at n1
  clear h1 k1
  have H2 : Hid (Arg w a2 E2 b2 o2) := h2
  have K2 : Hid (∀ r, r < E2.length → (ky E2 r).size ≤ maxLen) := k2
  unfold maxLen at n2
  clear h2 k2
  go_enter Trym.func16, Trym.ntmps16
  go_wp2
  all_goals first | (go_ret; exact ⟨Boolish.of rfl, rfl⟩) | skip
  go_loop [7, 8] (fun z i => ∃ k : Nat, (∃ x : Int, z = .int .i64 x) ∧ i = .int .i64 k ∧ k ≤ E0.length) (fun _ i => E0.length - (intOf i).toNat)
  case atStart => exact ⟨0, ⟨_, rfl⟩, rfl, Nat.zero_le _⟩
  case round =>
    obtain ⟨k, ⟨x, rfl⟩, rfl, hk⟩ := hrel
    by_cases hlt : k < E0.length
    · have hix := H0.out.index c0 k hlt
      have hc := H0.out.key k hlt
      have hm := K0.out k hlt
      unfold maxLen at hm
      go_wp2
      rotate_right
      · go_round
        case rel => exact ⟨k + 1, ⟨_, rfl⟩, by go_num, by omega⟩
        case measure => simp [intOf]; omega
      all_goals
        go_ret
        exact ⟨Boolish.of rfl, rfl⟩
    · go_wp2
      all_goals first | (go_ret; exact ⟨Boolish.of rfl, rfl⟩) | skip
      go_loop [7, 9] (fun z i => ∃ k : Nat, (∃ x : Int, z = .int .i64 x) ∧ i = .int .i64 k ∧ k ≤ E1.length) (fun _ i => E1.length - (intOf i).toNat)
      case atStart => exact ⟨0, ⟨_, rfl⟩, rfl, Nat.zero_le _⟩
      case round =>
        obtain ⟨k, ⟨x, rfl⟩, rfl, hk⟩ := hrel
        by_cases hlt : k < E1.length
        · have hix := H1.out.index c1 k hlt
          have hc := H1.out.key k hlt
          have hm := K1.out k hlt
          unfold maxLen at hm
          go_wp2
          rotate_right
          · go_round
            case rel => exact ⟨k + 1, ⟨_, rfl⟩, by go_num, by omega⟩
            case measure => simp [intOf]; omega
          all_goals
            go_ret
            exact ⟨Boolish.of rfl, rfl⟩
        · go_wp2
          all_goals first | (go_ret; exact ⟨Boolish.of rfl, rfl⟩) | skip
          go_loop [7, 10] (fun z i => ∃ k : Nat, (∃ x : Int, z = .int .i64 x) ∧ i = .int .i64 k ∧ k ≤ E2.length) (fun _ i => E2.length - (intOf i).toNat)
          case atStart => exact ⟨0, ⟨_, rfl⟩, rfl, Nat.zero_le _⟩
          case round =>
            obtain ⟨k, ⟨x, rfl⟩, rfl, hk⟩ := hrel
            by_cases hlt : k < E2.length
            · have hix := H2.out.index c2 k hlt
              have hc := H2.out.key k hlt
              have hm := K2.out k hlt
              unfold maxLen at hm
              go_wp2
              rotate_right
              · go_round
                case rel => exact ⟨k + 1, ⟨_, rfl⟩, by go_num, by omega⟩
                case measure => simp [intOf]; omega
              all_goals
                go_ret
                exact ⟨Boolish.of rfl, rfl⟩
            · go_wp2
              all_goals
                go_ret
                exact ⟨Boolish.of rfl, rfl⟩

end Go.Proofs.Qxb6605327aMods
