/-
  Seat b6603298aM: the plain functions over lists of bytes: slash form, within, join, components. Nothing of the program is imported.
-/
namespace Go.Proofs.Qxb6603298aMods.Plain

/-- No two slashes in a row and none at the end, the byte ahead being a slash or not. -/
def good : Bool → List UInt8 → Bool
  | b, [] => !b
  | b, c :: r => if c = 47 then !b && good true r else good false r

def sf : List UInt8 → Bool
  | [] => false
  | c :: r => c == 47 && (r.isEmpty || good true r)

theorem good_slash_true (r : List UInt8) : good true (47 :: r) = false := by simp [good]
theorem good_slash_false (r : List UInt8) : good false (47 :: r) = good true r := by simp [good]
theorem good_other (b : Bool) (c : UInt8) (r : List UInt8) (h : ¬ c = 47) : good b (c :: r) = good false r := by simp [good, h]

theorem good_last (x : List UInt8) : ∀ b, good b (x ++ [47]) = false := by
  induction x with
  | nil => intro b; cases b <;> simp [good]
  | cons c r ih =>
    intro b
    by_cases h : c = 47
    · subst h; simp [good, ih]
    · rw [List.cons_append, good_other _ _ _ h]; exact ih false

/-- What stands behind a slash. -/
theorem good_behind (x y : List UInt8) : ∀ b, good b (x ++ 47 :: y) = true → good true y = true := by
  induction x with
  | nil => intro b h; cases b <;> simp [good] at h; exact h
  | cons c r ih =>
    intro b h
    by_cases e : c = 47
    · subst e
      cases b with
      | true => rw [List.cons_append, good_slash_true] at h; cases h
      | false => rw [List.cons_append, good_slash_false] at h; exact ih true h
    · rw [List.cons_append, good_other _ _ _ e] at h; exact ih false h

theorem sf_cases {l : List UInt8} (h : sf l = true) : ∃ r, l = 47 :: r ∧ (r = [] ∨ (r ≠ [] ∧ good true r = true)) := by
  cases l with
  | nil => simp [sf] at h
  | cons c r =>
    simp only [sf, Bool.and_eq_true, beq_iff_eq, Bool.or_eq_true] at h
    obtain ⟨rfl, h2⟩ := h
    refine ⟨r, rfl, ?_⟩
    cases r with
    | nil => exact .inl rfl
    | cons d r => exact .inr ⟨by simp, by simpa using h2⟩

theorem sf_mk {r : List UInt8} (h : good true r = true) : sf (47 :: r) = true := by simp [sf, h]
theorem sf_one : sf [47] = true := by simp [sf]

/-- within: the relative path, and whether p lies within base. -/
def wi (base p : List UInt8) : List UInt8 × Bool :=
  if base = [47] then (p, true) else if p = base then ([47], true)
  else if p.take (base.length + 1) = base ++ [47] then (47 :: p.drop (base.length + 1), true) else ([], false)

def jn (base rel : List UInt8) : List UInt8 := if base = [47] then rel else if rel = [47] then base else base ++ rel

theorem wi_no {base p : List UInt8} (h : (wi base p).2 = false) : (wi base p).1 = [] := by
  unfold wi at h ⊢
  split at h
  · cases h
  · split at h
    · cases h
    · split at h
      · cases h
      · rename_i a b c
        rw [if_neg a, if_neg b, if_neg c]

theorem take_split {base p : List UInt8} (h : p.take (base.length + 1) = base ++ [47]) : p = base ++ 47 :: p.drop (base.length + 1) := by
  have e := List.take_append_drop (base.length + 1) p
  rw [h] at e
  rw [← e]
  simp

/-- Where within says yes: the relative path is in slash form, and joins back. -/
theorem wi_yes {base p : List UInt8} (_hb : sf base = true) (hp : sf p = true) (h : (wi base p).2 = true) : sf (wi base p).1 = true ∧ jn base (wi base p).1 = p := by
  unfold wi at h ⊢
  by_cases a : base = [47]
  · rw [if_pos a]; exact ⟨hp, by simp [jn, a]⟩
  rw [if_neg a] at h ⊢
  by_cases b : p = base
  · rw [if_pos b]; exact ⟨sf_one, by simp [jn, a, b]⟩
  rw [if_neg b] at h ⊢
  by_cases c : p.take (base.length + 1) = base ++ [47]
  · rw [if_pos c]
    have hs := take_split c
    generalize hrest : p.drop (base.length + 1) = rest at hs
    have hg : good true rest = true := by
      obtain ⟨r, hr, h1⟩ := sf_cases hp
      cases base with
      | nil =>
        rw [List.nil_append, hr] at hs
        obtain ⟨_, rfl⟩ := List.cons.inj hs
        rcases h1 with h1 | h1
        · subst h1; simp [sf] at _hb
        · exact h1.2
      | cons c0 b0 =>
        rw [hr, List.cons_append] at hs
        obtain ⟨_, h2⟩ := List.cons.inj hs
        subst h2
        rcases h1 with h1 | h1
        · simp at h1
        · exact good_behind b0 rest true h1.2
    refine ⟨sf_mk hg, ?_⟩
    unfold jn
    rw [if_neg a, if_neg, ← hs]
    intro e
    have : rest = [] := by simpa using e
    subst this
    simp [good] at hg
  · rw [if_neg c] at h; cases h

/-- A slash-form path joined below base is found within base. -/
theorem wi_join {base rel : List UInt8} (hr : sf rel = true) : wi base (jn base rel) = (rel, true) := by
  unfold jn
  by_cases a : base = [47]
  · rw [if_pos a]; unfold wi; rw [if_pos a]
  rw [if_neg a]
  by_cases b : rel = [47]
  · rw [if_pos b]; unfold wi; rw [if_neg a, if_pos rfl, b]
  rw [if_neg b]
  obtain ⟨r, rfl, _⟩ := sf_cases hr
  unfold wi
  rw [if_neg a, if_neg, if_pos]
  · have e : base ++ 47 :: r = (base ++ [47]) ++ r := by simp
    rw [e, List.drop_left' (by simp)]
  · have e : base ++ 47 :: r = (base ++ [47]) ++ r := by simp
    rw [e, List.take_left' (by simp)]
  · intro e
    have := congrArg List.length e
    simp at this

end Go.Proofs.Qxb6603298aMods.Plain
