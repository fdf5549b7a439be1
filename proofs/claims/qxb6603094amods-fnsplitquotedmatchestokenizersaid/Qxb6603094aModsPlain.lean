/-
  Seat b6603094aM: the plain functions: what splitQuoted and tokenizeSplit compute, as lists of ranges of the value. Nothing of the program is imported.
-/
namespace Go.Proofs.Qxb6603094aMods.Plain

/-- Byte i of s as an integer; -1 where there is none. -/
def bt (s : ByteArray) (i : Nat) : Int := if h : i < s.size then (s[i].toNat : Int) else -1

theorem bt_at (s : ByteArray) (i : Nat) (h : i < s.size) : bt s i = (s[i].toNat : Int) := by
  unfold bt
  rw [dif_pos h]

/-- splitQuoted: the ranges, from place i on, with the part that begins at st. The first number is fuel. -/
def scan (s : ByteArray) (sep : Int) : Nat → Nat → Nat → Bool → List (Nat × Nat) → List (Nat × Nat)
  | 0, _, st, _, acc => acc ++ [(st, s.size)]
  | f + 1, i, st, q, acc =>
    if i < s.size then
      if bt s i = 34 then scan s sep f (i + 1) st (!q) acc
      else if bt s i = 92 then scan s sep f (if q then i + 2 else i + 1) st q acc
      else if bt s i = sep ∧ q = false then scan s sep f (i + 1) (i + 1) q (acc ++ [(st, i)])
      else scan s sep f (i + 1) st q acc
    else acc ++ [(st, s.size)]

theorem scan_end (s : ByteArray) (sep : Int) (f i st : Nat) (q : Bool) (acc : List (Nat × Nat)) (h : s.size ≤ i) : scan s sep f i st q acc = acc ++ [(st, s.size)] := by
  cases f with
  | zero => rfl
  | succ f => rw [scan, if_neg (by omega)]

/-- Fuel beyond what is left counts for nothing. -/
theorem scan_fuel (s : ByteArray) (sep : Int) (f : Nat) : ∀ (g i st : Nat) (q : Bool) (acc : List (Nat × Nat)), s.size - i ≤ f → s.size - i ≤ g → scan s sep f i st q acc = scan s sep g i st q acc := by
  induction f with
  | zero => intro g i st q acc h1 h2; rw [scan_end _ _ _ _ _ _ _ (by omega), scan_end _ _ _ _ _ _ _ (by omega)]
  | succ f ih =>
    intro g i st q acc h1 h2
    by_cases hi : i < s.size
    · obtain ⟨g', rfl⟩ : ∃ g', g = g' + 1 := ⟨g - 1, by omega⟩
      rw [scan, scan, if_pos hi, if_pos hi]
      by_cases a1 : bt s i = 34
      · rw [if_pos a1, if_pos a1]; exact ih _ _ _ _ _ (by omega) (by omega)
      rw [if_neg a1, if_neg a1]
      by_cases a2 : bt s i = 92
      · rw [if_pos a2, if_pos a2]; exact ih _ _ _ _ _ (by split <;> omega) (by split <;> omega)
      rw [if_neg a2, if_neg a2]
      by_cases a3 : bt s i = sep ∧ q = false
      · rw [if_pos a3, if_pos a3]; exact ih _ _ _ _ _ (by omega) (by omega)
      rw [if_neg a3, if_neg a3]; exact ih _ _ _ _ _ (by omega) (by omega)
    · rw [scan_end _ _ _ _ _ _ _ (by omega), scan_end _ _ _ _ _ _ _ (by omega)]

/-- The answer from a state on, with enough fuel. -/
def from_ (s : ByteArray) (sep : Int) (i st : Nat) (q : Bool) (acc : List (Nat × Nat)) : List (Nat × Nat) := scan s sep (s.size - i) i st q acc

theorem from_end {s : ByteArray} {sep : Int} {i st : Nat} {q : Bool} {acc : List (Nat × Nat)} (h : s.size ≤ i) : from_ s sep i st q acc = acc ++ [(st, s.size)] := scan_end _ _ _ _ _ _ _ h

theorem from_step (s : ByteArray) (sep : Int) (i st : Nat) (q : Bool) (acc : List (Nat × Nat)) (h : i < s.size) : from_ s sep i st q acc =
    if bt s i = 34 then from_ s sep (i + 1) st (!q) acc
    else if bt s i = 92 then from_ s sep (if q then i + 2 else i + 1) st q acc
    else if bt s i = sep ∧ q = false then from_ s sep (i + 1) (i + 1) q (acc ++ [(st, i)])
    else from_ s sep (i + 1) st q acc := by
  unfold from_
  rw [scan_fuel s sep (s.size - i) (s.size - (i + 1) + 1) i st q acc (by omega) (by omega), scan, if_pos h]
  by_cases a1 : bt s i = 34
  · rw [if_pos a1, if_pos a1]
  rw [if_neg a1, if_neg a1]
  by_cases a2 : bt s i = 92
  · rw [if_pos a2, if_pos a2]; exact scan_fuel _ _ _ _ _ _ _ _ (by split <;> omega) (by omega)
  rw [if_neg a2, if_neg a2]

theorem from_quote {s : ByteArray} {sep : Int} {i st : Nat} {q : Bool} {acc : List (Nat × Nat)} (h : i < s.size) (a : bt s i = 34) : from_ s sep i st q acc = from_ s sep (i + 1) st (!q) acc := by
  rw [from_step _ _ _ _ _ _ h, if_pos a]
theorem from_slash_in {s : ByteArray} {sep : Int} {i st : Nat} {acc : List (Nat × Nat)} (h : i < s.size) (a : bt s i = 92) : from_ s sep i st true acc = from_ s sep (i + 2) st true acc := by
  rw [from_step _ _ _ _ _ _ h, if_neg (by omega), if_pos a]; rfl
theorem from_slash_out {s : ByteArray} {sep : Int} {i st : Nat} {acc : List (Nat × Nat)} (h : i < s.size) (a : bt s i = 92) : from_ s sep i st false acc = from_ s sep (i + 1) st false acc := by
  rw [from_step _ _ _ _ _ _ h, if_neg (by omega), if_pos a]; rfl
theorem from_cut {s : ByteArray} {sep : Int} {i st : Nat} {acc : List (Nat × Nat)} (h : i < s.size) (a1 : ¬ bt s i = 34) (a2 : ¬ bt s i = 92) (a3 : bt s i = sep) :
    from_ s sep i st false acc = from_ s sep (i + 1) (i + 1) false (acc ++ [(st, i)]) := by
  rw [from_step _ _ _ _ _ _ h, if_neg a1, if_neg a2, if_pos ⟨a3, rfl⟩]
theorem from_pass {s : ByteArray} {sep : Int} {i st : Nat} {q : Bool} {acc : List (Nat × Nat)} (h : i < s.size) (a1 : ¬ bt s i = 34) (a2 : ¬ bt s i = 92) (a3 : ¬ (bt s i = sep ∧ q = false)) :
    from_ s sep i st q acc = from_ s sep (i + 1) st q acc := by
  rw [from_step _ _ _ _ _ _ h, if_neg a1, if_neg a2, if_neg a3]

/-- What splitQuoted gives. -/
def cuts (s : ByteArray) (sep : Int) : List (Nat × Nat) := from_ s sep 0 0 false []

/-! ### The round trip -/

def rangeAt (R : List (Nat × Nat)) (k : Nat) : Nat × Nat := R.getD k (0, 0)

/-- The ranges R lie one behind the other, a separator between two, from 0 up to 'upTo'. -/
structure Chain (s : ByteArray) (sep : Int) (R : List (Nat × Nat)) (next : Nat) : Prop where
  first : 0 < R.length → (rangeAt R 0).1 = 0
  none : R.length = 0 → next = 0
  le : ∀ k, k < R.length → (rangeAt R k).1 ≤ (rangeAt R k).2 ∧ (rangeAt R k).2 < s.size ∧ bt s (rangeAt R k).2 = sep
  step : ∀ k, k + 1 < R.length → (rangeAt R (k + 1)).1 = (rangeAt R k).2 + 1
  last : ∀ k, k + 1 = R.length → next = (rangeAt R k).2 + 1

theorem rangeAt_old {R : List (Nat × Nat)} {x : Nat × Nat} {k : Nat} (h : k < R.length) : rangeAt (R ++ [x]) k = rangeAt R k := by
  unfold rangeAt
  simp [List.getD, List.getElem?_append_left h]
theorem rangeAt_new {R : List (Nat × Nat)} {x : Nat × Nat} {k : Nat} (h : k = R.length) : rangeAt (R ++ [x]) k = x := by
  subst h
  unfold rangeAt
  simp [List.getD]

theorem Chain.nil (s : ByteArray) (sep : Int) : Chain s sep [] 0 :=
  ⟨fun h => by simp at h, fun _ => rfl, fun k h => by simp at h, fun k h => by simp at h, fun k h => by simp at h⟩

theorem Chain.snoc {s : ByteArray} {sep : Int} {R : List (Nat × Nat)} {st i : Nat} (h : Chain s sep R st) (h1 : st ≤ i) (h2 : i < s.size) (h3 : bt s i = sep) : Chain s sep (R ++ [(st, i)]) (i + 1) := by
  refine ⟨fun _ => ?_, fun e => by simp at e, fun k hk => ?_, fun k hk => ?_, fun k hk => ?_⟩
  · by_cases e : R.length = 0
    · rw [rangeAt_new e.symm]; exact h.none e
    · rw [rangeAt_old (by omega)]; exact h.first (by omega)
  · by_cases e : k < R.length
    · rw [rangeAt_old e]; exact h.le k e
    · have : k = R.length := by simp at hk; omega
      rw [rangeAt_new this]; exact ⟨h1, h2, h3⟩
  · simp at hk
    rw [rangeAt_old (k := k) (by omega)]
    by_cases e : k + 1 < R.length
    · rw [rangeAt_old e]; exact h.step k e
    · rw [rangeAt_new (by omega)]; exact h.last k (by omega)
  · simp at hk
    rw [rangeAt_new (by omega)]

/-- The whole answer: ranges that lie one behind the other, a separator between two, the last up to the end. -/
structure Good (s : ByteArray) (sep : Int) (R : List (Nat × Nat)) : Prop where
  some : 0 < R.length
  first : (rangeAt R 0).1 = 0
  le : ∀ k, k < R.length → (rangeAt R k).1 ≤ (rangeAt R k).2 ∧ (rangeAt R k).2 ≤ s.size
  step : ∀ k, k + 1 < R.length → (rangeAt R k).2 < s.size ∧ bt s (rangeAt R k).2 = sep ∧ (rangeAt R (k + 1)).1 = (rangeAt R k).2 + 1
  last : ∀ k, k + 1 = R.length → (rangeAt R k).2 = s.size

theorem Good.of_chain {s : ByteArray} {sep : Int} {R : List (Nat × Nat)} {st : Nat} (h : Chain s sep R st) (h1 : st ≤ s.size) : Good s sep (R ++ [(st, s.size)]) := by
  refine ⟨by simp, ?_, fun k hk => ?_, fun k hk => ?_, fun k hk => ?_⟩
  · by_cases e : R.length = 0
    · rw [rangeAt_new e.symm]; exact h.none e
    · rw [rangeAt_old (by omega)]; exact h.first (by omega)
  · by_cases e : k < R.length
    · rw [rangeAt_old e]; have := h.le k e; omega
    · have : k = R.length := by simp at hk; omega
      rw [rangeAt_new this]; exact ⟨h1, Nat.le_refl _⟩
  · simp at hk
    rw [rangeAt_old (k := k) (by omega)]
    have hl := h.le k (by omega)
    refine ⟨hl.2.1, hl.2.2, ?_⟩
    by_cases e : k + 1 < R.length
    · rw [rangeAt_old e]; exact h.step k e
    · rw [rangeAt_new (by omega)]; exact h.last k (by omega)
  · simp at hk
    rw [rangeAt_new (by omega)]

theorem from_good (s : ByteArray) (sep : Int) (n : Nat) : ∀ (i st : Nat) (q : Bool) (acc : List (Nat × Nat)), s.size - i ≤ n → st ≤ i → st ≤ s.size → Chain s sep acc st → Good s sep (from_ s sep i st q acc) := by
  induction n with
  | zero => intro i st q acc h1 h2 h3 hc; rw [from_end (by omega)]; exact Good.of_chain hc h3
  | succ n ih =>
    intro i st q acc h1 h2 h3 hc
    by_cases hi : i < s.size
    · rw [from_step _ _ _ _ _ _ hi]
      by_cases a1 : bt s i = 34
      · rw [if_pos a1]; exact ih _ _ _ _ (by omega) (by omega) h3 hc
      rw [if_neg a1]
      by_cases a2 : bt s i = 92
      · rw [if_pos a2]; exact ih _ _ _ _ (by split <;> omega) (by split <;> omega) h3 hc
      rw [if_neg a2]
      by_cases a3 : bt s i = sep ∧ q = false
      · rw [if_pos a3]; exact ih _ _ _ _ (by omega) (by omega) (by omega) (hc.snoc h2 hi a3.1)
      rw [if_neg a3]; exact ih _ _ _ _ (by omega) (by omega) h3 hc
    · rw [from_end (by omega)]; exact Good.of_chain hc h3

theorem cuts_good (s : ByteArray) (sep : Int) : Good s sep (cuts s sep) := from_good s sep _ 0 0 false [] (Nat.le_refl _) (Nat.le_refl _) (Nat.zero_le _) (Chain.nil s sep)

theorem from_length (s : ByteArray) (sep : Int) (n : Nat) : ∀ (i st : Nat) (q : Bool) (acc : List (Nat × Nat)), s.size - i ≤ n → (from_ s sep i st q acc).length ≤ acc.length + n + 1 := by
  induction n with
  | zero => intro i st q acc h1; rw [from_end (by omega)]; simp
  | succ n ih =>
    intro i st q acc h1
    by_cases hi : i < s.size
    · rw [from_step _ _ _ _ _ _ hi]
      by_cases a1 : bt s i = 34
      · rw [if_pos a1]; exact Nat.le_trans (ih _ _ _ _ (by omega)) (by omega)
      rw [if_neg a1]
      by_cases a2 : bt s i = 92
      · rw [if_pos a2]; exact Nat.le_trans (ih _ _ _ _ (by split <;> omega)) (by omega)
      rw [if_neg a2]
      by_cases a3 : bt s i = sep ∧ q = false
      · rw [if_pos a3]; exact Nat.le_trans (ih _ _ _ _ (by omega)) (by simp; omega)
      rw [if_neg a3]; exact Nat.le_trans (ih _ _ _ _ (by omega)) (by omega)
    · rw [from_end (by omega)]; simp

theorem cuts_length (s : ByteArray) (sep : Int) : (cuts s sep).length ≤ s.size + 1 := by
  have := from_length s sep s.size 0 0 false [] (by omega)
  unfold cuts
  simpa using this

/-! ### The tokenizer -/

/-- The place of the closing quote (or beyond the end), from j on. -/
def skip (s : ByteArray) : Nat → Nat → Nat
  | 0, j => j
  | f + 1, j => if j < s.size then (if bt s j = 34 then j else if bt s j = 92 then skip s f (j + 2) else skip s f (j + 1)) else j

theorem skip_end (s : ByteArray) (f j : Nat) (h : s.size ≤ j) : skip s f j = j := by
  cases f with
  | zero => rfl
  | succ f => rw [skip, if_neg (by omega)]

theorem skip_fuel (s : ByteArray) (f : Nat) : ∀ (g j : Nat), s.size - j ≤ f → s.size - j ≤ g → skip s f j = skip s g j := by
  induction f with
  | zero => intro g j h1 h2; rw [skip_end _ _ _ (by omega), skip_end _ _ _ (by omega)]
  | succ f ih =>
    intro g j h1 h2
    by_cases hj : j < s.size
    · obtain ⟨g', rfl⟩ : ∃ g', g = g' + 1 := ⟨g - 1, by omega⟩
      rw [skip, skip, if_pos hj, if_pos hj]
      by_cases a1 : bt s j = 34
      · rw [if_pos a1, if_pos a1]
      rw [if_neg a1, if_neg a1]
      by_cases a2 : bt s j = 92
      · rw [if_pos a2, if_pos a2]; exact ih _ _ (by omega) (by omega)
      rw [if_neg a2, if_neg a2]; exact ih _ _ (by omega) (by omega)
    · rw [skip_end _ _ _ (by omega), skip_end _ _ _ (by omega)]

def close (s : ByteArray) (j : Nat) : Nat := skip s (s.size - j) j

theorem close_end {s : ByteArray} {j : Nat} (h : s.size ≤ j) : close s j = j := skip_end _ _ _ h
theorem close_step (s : ByteArray) (j : Nat) (h : j < s.size) : close s j = if bt s j = 34 then j else if bt s j = 92 then close s (j + 2) else close s (j + 1) := by
  unfold close
  rw [skip_fuel s (s.size - j) (s.size - (j + 1) + 1) j (by omega) (by omega), skip, if_pos h]
  by_cases a1 : bt s j = 34
  · rw [if_pos a1, if_pos a1]
  rw [if_neg a1, if_neg a1]
  by_cases a2 : bt s j = 92
  · rw [if_pos a2, if_pos a2]; exact skip_fuel _ _ _ _ (by omega) (by omega)
  rw [if_neg a2, if_neg a2]
theorem close_quote {s : ByteArray} {j : Nat} (h : j < s.size) (a : bt s j = 34) : close s j = j := by rw [close_step s j h, if_pos a]
theorem close_slash {s : ByteArray} {j : Nat} (h : j < s.size) (a : bt s j = 92) : close s j = close s (j + 2) := by rw [close_step s j h, if_neg (by omega), if_pos a]
theorem close_pass {s : ByteArray} {j : Nat} (h : j < s.size) (a1 : ¬ bt s j = 34) (a2 : ¬ bt s j = 92) : close s j = close s (j + 1) := by rw [close_step s j h, if_neg a1, if_neg a2]

theorem close_bounds (s : ByteArray) (n : Nat) : ∀ j, s.size - j ≤ n → j ≤ s.size + 1 → j ≤ close s j ∧ close s j ≤ s.size + 1 := by
  induction n with
  | zero => intro j h1 h2; rw [close_end (by omega)]; omega
  | succ n ih =>
    intro j h1 h2
    by_cases hj : j < s.size
    · rw [close_step s j hj]
      by_cases a1 : bt s j = 34
      · rw [if_pos a1]; omega
      rw [if_neg a1]
      by_cases a2 : bt s j = 92
      · rw [if_pos a2]; have := ih (j + 2) (by omega) (by omega); omega
      rw [if_neg a2]; have := ih (j + 1) (by omega) (by omega); omega
    · rw [close_end (by omega)]; omega

/-- Inside a quoted string splitQuoted goes on as outside, behind the place where it closes. -/
theorem from_close (s : ByteArray) (sep : Int) (n : Nat) : ∀ (j st : Nat) (acc : List (Nat × Nat)), s.size - j ≤ n → from_ s sep j st true acc = from_ s sep (close s j + 1) st false acc := by
  induction n with
  | zero => intro j st acc h; rw [from_end (by omega), close_end (by omega), from_end (by omega)]
  | succ n ih =>
    intro j st acc h
    by_cases hj : j < s.size
    · by_cases a1 : bt s j = 34
      · rw [from_quote hj a1, close_quote hj a1]; rfl
      by_cases a2 : bt s j = 92
      · rw [from_slash_in hj a2, close_slash hj a2]; exact ih _ _ _ (by omega)
      rw [from_pass hj a1 a2 (by simp), close_pass hj a1 a2]; exact ih _ _ _ (by omega)
    · rw [from_end (by omega), close_end (by omega), from_end (by omega)]

/-- The tokenizer's step at a quote: from the place behind the closing quote on. -/
theorem tok_quote {s : ByteArray} {sep : Int} {i st : Nat} {acc : List (Nat × Nat)} (h : i < s.size) (a : bt s i = 34) :
    from_ s sep i st false acc = from_ s sep (close s (i + 1) + 1) st false acc := by
  rw [from_quote h a]
  exact from_close s sep _ _ _ _ (Nat.le_refl _)
theorem tok_cut {s : ByteArray} {sep : Int} {i st : Nat} {acc : List (Nat × Nat)} (h : i < s.size) (a1 : ¬ bt s i = 34) (a3 : bt s i = sep) (a4 : ¬ sep = 92) :
    from_ s sep i st false acc = from_ s sep (i + 1) (i + 1) false (acc ++ [(st, i)]) := from_cut h a1 (by omega) a3
theorem tok_pass {s : ByteArray} {sep : Int} {i st : Nat} {acc : List (Nat × Nat)} (h : i < s.size) (a1 : ¬ bt s i = 34) (a3 : ¬ bt s i = sep ∨ sep = 92) :
    from_ s sep i st false acc = from_ s sep (i + 1) st false acc := by
  by_cases a2 : bt s i = 92
  · exact from_slash_out h a2
  · exact from_pass h a1 a2 (by rintro ⟨e, _⟩; rcases a3 with a3 | a3 <;> omega)

end Go.Proofs.Qxb6603094aMods.Plain
