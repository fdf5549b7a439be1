/-
  Seat b6604299aM: the table of texts: what the map holds against the list of texts seen; text (10), ZZText (7), zzB1IndexOf (8).
-/
import Derived.Test.Qxb6604299aModsBase
import Derived.Maps.OwnSet
import Derived.Maps.OwnOps
import Derived.Maps.StringElems
namespace Go.Proofs.Qxb6604299aMods
open Go.RowKit Go.WideMaps Go.Maps
set_option linter.unusedVariables false

theorem law : Keyed Trym.prog 9 := string_keyed Trym.underlying9
theorem zeroE (w : World) : (zeroValue 9).run Trym.prog w = .ok (.string ByteArray.empty) w := by kernel_rfl
theorem keyS (s : ByteArray) (h : s.size ≤ maxLen) : keyOf Trym.prog 9 (.string s) = some (.string s.data.toList) := keyOf_string_mk Trym.underlying9 h

/-- The table D holds just the texts S, each under itself. -/
structure MInv (D : DataW Unit) (S : List (List UInt8)) : Prop where
  tidy : Tidy D
  has : ∀ l, Maps.has D (.string l) = decide (l ∈ S)
  at_ : ∀ l, l ∈ S → D.atKey (.string l) (.lit (.string [])) = .lit (.string l)
  size : Maps.size D = S.length

theorem MInv.start : MInv (.map []) [] := ⟨tidy_empty, fun l => by simp [Maps.has], fun l h => by simp at h, rfl⟩

theorem isKey (l : List UInt8) : WideAt.IsKeyLit (.string l) := by trivial

theorem MInv.put {D : DataW Unit} {S : List (List UInt8)} (h : MInv D S) {l : List UInt8} (hl : l ∉ S) : MInv (D.put (.string l) (.lit (.string l))) (S ++ [l]) := by
  refine ⟨h.tidy.put (isKey l) _, fun m => ?_, fun m hm => ?_, ?_⟩
  · by_cases e : m = l
    · subst e
      rw [has_put_same h.tidy.isMap (isKey m)]; simp
    · rw [has_put_other (by simpa using e), h.has m]
      simp [e]
  · by_cases e : m = l
    · subst e
      exact atKey_put_same h.tidy.isMap (isKey m) _ _
    · rw [atKey_put_other (by simpa using e)]
      exact h.at_ m (by simpa [e] using hm)
  · have h0 : Maps.has D (.string l) = false := by rw [h.has l]; simpa using hl
    rw [size_put h.tidy, h0, h.size]
    simp

/-- 'v, ok := m[k]' at string elements. -/
theorem wpList_lookup_ok_str {P : Program} (w : World) {ops : Array Oper} {rest : List Oper} {o : Oper} {a : Act} {Q : Exit → Act → World → Prop} (hg : o.guard = none) (m x : Operand) (t : TypeId) (hop : o.op = Op.lookup t m x true)
    (k e : TypeId) (K : Keyed P k) (ht : P.underlying t = some (.map k e)) (he : P.underlying e = some .string) (hz : (zeroValue e).run P w = .ok (.string ByteArray.empty) w) (b n : Nat) (D : DataW Unit)
    (hm : a.eval m = .map (some b)) (hown : w.ownsMap P k (plainElem P e) b n D) (key : Value) (kl : Lit) (hx : a.eval x = key) (hkey : keyOf P k key = some kl)
    (hK : ∀ s : ByteArray, D.atKey kl (.lit (.string [])) = .lit (.string s.data.toList) → wpList P ops Q rest (a.put o.dst (.tuple #[.string s, .bool (Maps.has D kl)])) w) :
    wpList P ops Q (o :: rest) a w :=
  wpList_lookup_own_ok w hg m x t hop k e K ht (plainElem P e) hz (.lit (.string [])) [] (plainElem_string he (by simp [ByteArray.size, maxLen])) b n D hm hown key kl hx hkey (fun v ps hv => by
    obtain ⟨s, rfl, hc, _⟩ := plainElem_string_inv he hv
    exact hK s (congrArg Prod.fst hc))

/-- What the table has seen behind one call of text. -/
def seen (few : Bool) (S : List (List UInt8)) (l : List UInt8) : List (List UInt8) := if few = true ∧ l ∉ S then S ++ [l] else S

abbrev Tab (w : World) (bm N : Nat) (D : DataW Unit) : Prop := w.ownsMap Trym.prog 9 (plainElem Trym.prog 9) bm N D

set_option maxHeartbeats 800000 in
theorem text_few (ao : Option Addr) (n cap lo bm N : Nat) (l : List UInt8) (D : DataW Unit) (S : List (List UInt8)) (w : World) (ht : Txt w lo ao n l) (hl : l.length ≤ 1048576) (hown : Tab w bm N D) (hN : N ≤ 5000) (hI : MInv D S) :
    Calls Trym.prog 7 #[.map (some bm), .slice ao n cap, .bool true] w fun e w' => e = .returned (.string (bmk l)) ∧ ∃ D', Tab w' bm (N + 1) D' ∧ MInv D' (seen true S l) ∧ w.grownBy w' (some bm) := by
  have kc := ht.convert (cap := cap)
  have hsz : (bmk l).size ≤ maxLen := by rw [bmk_size]; unfold maxLen; omega
  have hkey := keyS (bmk l) hsz
  rw [bmk_data] at hkey
  by_cases hs : l ∈ S
  · have hhas : Maps.has D (.string l) = true := by rw [hI.has l]; simpa using hs
    have hat := hI.at_ l hs
    have hseen : seen true S l = S := by unfold seen; rw [if_neg]; rintro ⟨_, h⟩; exact h hs
    rw [hseen]
    clear hseen
    go_enter Trym.func7, Trym.ntmps7
    go_wp2_with (first | (at_lookup; refine wpList_lookup_ok_str _ rfl _ _ 34 rfl 9 9 law Trym.underlying34 Trym.underlying9 (zeroE _) bm N D rfl hown _ _ rfl hkey ?_; intro s hsat; obtain rfl : s = bmk l := (by rw [hat] at hsat; exact ByteArray.ext (Array.toList_inj.1 (by simpa [bmk] using hsat.symm)))) | go_in)
    go_ret
    exact ⟨rfl, D, hown.mono (by omega), hI, World.grownBy.refl _ _⟩
  · have hhas : Maps.has D (.string l) = false := by rw [hI.has l]; simpa using hs
    have hseen : seen true S l = S ++ [l] := by unfold seen; rw [if_pos ⟨rfl, hs⟩]
    rw [hseen]
    clear hseen
    have HP : Hid (MInv (D.put (.string l) (.lit (.string l))) (S ++ [l])) := hI.put hs
    go_enter Trym.func7, Trym.ntmps7
    go_wp2_with (first | (at_lookup; refine wpList_lookup_ok_str _ rfl _ _ 34 rfl 9 9 law Trym.underlying34 Trym.underlying9 (zeroE _) bm N D rfl hown _ _ rfl hkey ?_; intro s hsat) | (at_mapUpdate; refine wpList_mapUpdate_own _ rfl _ _ _ 34 rfl 9 9 law Trym.underlying34 _ bm N D rfl hown (by unfold maxLen; omega) _ _ _ rfl rfl hkey (.lit (.string l)) [] (plainElem_string Trym.underlying9 hsz) ?_; intro w1 hown1 hgrow1) | go_in)
    go_ret
    exact ⟨rfl, _, hown1, HP.out, hgrow1⟩

theorem text_many (ao : Option Addr) (n cap lo bm N : Nat) (l : List UInt8) (D : DataW Unit) (S : List (List UInt8)) (w : World) (ht : Txt w lo ao n l) (hown : Tab w bm N D) (hI : MInv D S) :
    Calls Trym.prog 7 #[.map (some bm), .slice ao n cap, .bool false] w fun e w' => e = .returned (.string (bmk l)) ∧ ∃ D', Tab w' bm (N + 1) D' ∧ MInv D' (seen false S l) ∧ w.grownBy w' (some bm) := by
  have kc := ht.convert (cap := cap)
  have hseen : seen false S l = S := by unfold seen; rw [if_neg]; rintro ⟨h, _⟩; cases h
  rw [hseen]
  clear hseen
  go_enter Trym.func7, Trym.ntmps7
  go_wp2
  go_ret
  exact ⟨rfl, D, hown.mono (by omega), hI, World.grownBy.refl _ _⟩

theorem text_any (few : Bool) (ao : Option Addr) (n cap lo bm N : Nat) (l : List UInt8) (D : DataW Unit) (S : List (List UInt8)) (w : World) (ht : Txt w lo ao n l) (hl : l.length ≤ 1048576) (hown : Tab w bm N D) (hN : N ≤ 5000) (hI : MInv D S) :
    Calls Trym.prog 7 #[.map (some bm), .slice ao n cap, .bool few] w fun e w' => e = .returned (.string (bmk l)) ∧ ∃ D', Tab w' bm (N + 1) D' ∧ MInv D' (seen few S l) ∧ w.grownBy w' (some bm) := by
  cases few with
  | true => exact text_few ao n cap lo bm N l D S w ht hl hown hN hI
  | false => exact text_many ao n cap lo bm N l D S w ht hown hI

def strVals (S : List (List UInt8)) : List Value := S.map fun l => .string (bmk l)
theorem strVals_at (S : List (List UInt8)) (k : Nat) (h : k < S.length) : (strVals S)[k]? = some (.string (bmk S[k])) := by simp [strVals, h]
theorem strVals_snoc (S : List (List UInt8)) (l : List UInt8) : strVals (S ++ [l]) = strVals S ++ [.string (bmk l)] := by simp [strVals]

/-- The value of a slice that owns the strings S: no element, or its cells. -/
theorem seen_shape {w : World} {base : Nat} {v : Value} {S : List (List UInt8)} (h : w.ownsRow base 9 1 v S.length (strVals S)) :
    (S = [] ∧ ∃ ao cap, v = .slice ao 0 cap) ∨ (0 < S.length ∧ ∃ g cap, v = .slice (some ⟨g, 0, none⟩) S.length cap ∧ base ≤ g ∧ g < w.heap.size ∧ ∀ k (hk : k < S.length), w.cell? ⟨g, k, none⟩ = some (.string (bmk S[k]))) := by
  by_cases h0 : S.length = 0
  · left
    have hS : S = [] := List.eq_nil_of_length_eq_zero h0
    subst hS
    rcases h.2 with ⟨rfl, _⟩ | ⟨g, cap, cur, rfl, _⟩
    · exact ⟨rfl, _, _, rfl⟩
    · exact ⟨rfl, _, _, rfl⟩
  · right
    rcases h.2 with ⟨_, e⟩ | ⟨g, cap, cur, rfl, hbg, hh, _⟩
    · omega
    · refine ⟨by omega, g, cap, rfl, hbg, (Array.getElem?_eq_some_iff.1 hh).1, fun k hk => ?_⟩
      rw [h.cellAt k (by omega), strVals_at S k hk]

/-- A place in the list, or a number below nought where the text is not on it. -/
def IdxOk (S : List (List UInt8)) (l : List UInt8) (r : Int) : Prop := (l ∈ S → 0 ≤ r) ∧ (l ∉ S → r < 0)

set_option maxHeartbeats 800000 in
theorem index_any (S : List (List UInt8)) (v : Value) (base : Nat) (l : List UInt8) (w : World) (hown : w.ownsRow base 9 1 v S.length (strVals S)) (hS : S.length ≤ 5000) :
    Calls Trym.prog 8 #[v, .string (bmk l)] w fun e w' => ∃ r : Int, e = .returned (.int .i64 r) ∧ IdxOk S l r ∧ w = w' := by
  rcases seen_shape hown with ⟨rfl, ao, cap, rfl⟩ | ⟨h0, g, cap, rfl, _, _, hc⟩
  · go_enter Trym.func8, Trym.ntmps8
    go_wp2
    go_loop [5] (fun i => i = .int .i64 0) (fun _ => 0)
    case atStart => rfl
    case round =>
      subst hrel
      go_wp2
      go_ret
      exact ⟨-1, rfl, ⟨fun h => by simp at h, fun _ => by decide⟩, rfl⟩
  · have HC : Hid (∀ k (hk : k < S.length), w.cell? ⟨g, k, none⟩ = some (.string (bmk S[k]))) := hc
    clear hc hown
    go_enter Trym.func8, Trym.ntmps8
    go_wp2
    go_loop [5] (fun i => ∃ k : Nat, k ≤ S.length ∧ i = .int .i64 k ∧ Hid (l ∉ S.take k)) (fun i => S.length - (intOf i).toNat)
    case atStart => exact ⟨0, Nat.zero_le _, rfl, fun h => by simp at h⟩
    case round =>
      obtain ⟨k, hk, rfl, HN⟩ := hrel
      by_cases hlt : k < S.length
      · have e1 := HC.out k hlt
        obtain ⟨x, hx⟩ : ∃ x, x = S[k] := ⟨_, rfl⟩
        rw [← hx] at e1
        have HX : Hid (x = S[k]) := hx
        clear hx
        have t1 := bmk_toList x
        have t2 := bmk_toList l
        by_cases hxl : x = l
        · have hb : (x == l) = true := by simpa using hxl
          have hin : l ∈ S := by rw [← hxl, HX.out]; exact List.getElem_mem _
          have HI : Hid (l ∈ S) := hin
          clear hin
          go_wp2
          go_ret
          exact ⟨_, rfl, ⟨fun _ => by omega, fun h => absurd HI.out h⟩, rfl⟩
        · have hb : (x == l) = false := by simpa using hxl
          have HJ : Hid (l ∉ S.take (k + 1)) := by
            intro h
            rw [List.take_succ_eq_append_getElem hlt, List.mem_append] at h
            rcases h with h | h
            · exact HN.out h
            · rw [← HX.out] at h
              simp at h
              exact hxl h.symm
          go_wp2
          go_round
          case rel => exact ⟨k + 1, by omega, by go_num, HJ⟩
          case measure => simp [intOf]; omega
      · have HO : Hid (l ∉ S) := by
          have := HN.out
          rw [List.take_of_length_le (by omega)] at this
          exact this
        go_wp2
        go_ret
        exact ⟨-1, rfl, ⟨fun h => absurd h HO.out, fun _ => by decide⟩, rfl⟩

end Go.Proofs.Qxb6604299aMods
