/-
  Seat b6605327aM: the plain mathematics: merging two lists of entries that are strictly sorted by key, and searching one. Nothing of the program is imported.
-/
namespace Go.Proofs.Qxb6605327aMods.Plain

structure Ord {K : Type} (lt : K → K → Bool) : Prop where
  irr : ∀ a, lt a a = false
  tr : ∀ {a b c}, lt a b = true → lt b c = true → lt a c = true
  tot : ∀ {a b}, lt a b = false → lt b a = false → a = b

section
variable {K α : Type} {lt : K → K → Bool}

/-- Strictly sorted by key. -/
def Srt (lt : K → K → Bool) (L : List (K × α)) : Prop := L.Pairwise (fun x y => lt x.1 y.1 = true)

/-- The merge that mergeKeys makes; the first number is fuel. -/
def mg (lt : K → K → Bool) : Nat → List (K × α) → List (K × α) → List (K × α)
  | 0, xs, ys => xs ++ ys
  | _ + 1, [], ys => ys
  | _ + 1, x :: xs, [] => x :: xs
  | f + 1, x :: xs, y :: ys => if lt x.1 y.1 then x :: mg lt f xs (y :: ys) else if lt y.1 x.1 then y :: mg lt f (x :: xs) ys else y :: mg lt f xs ys

theorem mg_nil_left (f : Nat) (ys : List (K × α)) : mg lt f [] ys = ys := by cases f <;> simp [mg]
theorem mg_nil_right (f : Nat) (xs : List (K × α)) : mg lt f xs [] = xs := by
  cases f with
  | zero => simp [mg]
  | succ f => cases xs <;> simp [mg]

theorem mg_fuel (f : Nat) : ∀ (g : Nat) (xs ys : List (K × α)), xs.length + ys.length ≤ f → xs.length + ys.length ≤ g → mg lt f xs ys = mg lt g xs ys := by
  induction f with
  | zero =>
    intro g xs ys h1 h2
    have e1 : xs = [] := List.eq_nil_of_length_eq_zero (by omega)
    subst e1
    rw [mg_nil_left, mg_nil_left]
  | succ f ih =>
    intro g xs ys h1 h2
    cases xs with
    | nil => rw [mg_nil_left, mg_nil_left]
    | cons x xs =>
      cases ys with
      | nil => rw [mg_nil_right, mg_nil_right]
      | cons y ys =>
        simp only [List.length_cons] at h1 h2
        obtain ⟨g', rfl⟩ : ∃ g', g = g' + 1 := ⟨g - 1, by omega⟩
        simp only [mg]
        rw [ih g' xs (y :: ys) (by simp; omega) (by simp; omega), ih g' (x :: xs) ys (by simp; omega) (by simp; omega), ih g' xs ys (by omega) (by omega)]

/-- With enough fuel. -/
def merge (lt : K → K → Bool) (xs ys : List (K × α)) : List (K × α) := mg lt (xs.length + ys.length) xs ys

theorem merge_nil_left (ys : List (K × α)) : merge lt [] ys = ys := mg_nil_left _ _
theorem merge_nil_right (xs : List (K × α)) : merge lt xs [] = xs := mg_nil_right _ _
theorem merge_left {x y : K × α} {xs ys : List (K × α)} (h : lt x.1 y.1 = true) : merge lt (x :: xs) (y :: ys) = x :: merge lt xs (y :: ys) := by
  unfold merge
  rw [show (x :: xs).length + (y :: ys).length = (xs.length + (y :: ys).length) + 1 by simp; omega, mg, if_pos h]
theorem merge_right {x y : K × α} {xs ys : List (K × α)} (h : lt x.1 y.1 = false) (h2 : lt y.1 x.1 = true) : merge lt (x :: xs) (y :: ys) = y :: merge lt (x :: xs) ys := by
  unfold merge
  rw [show (x :: xs).length + (y :: ys).length = ((x :: xs).length + ys.length) + 1 by simp; omega, mg, if_neg (by simp [h]), if_pos h2]
theorem merge_both {x y : K × α} {xs ys : List (K × α)} (h : lt x.1 y.1 = false) (h2 : lt y.1 x.1 = false) : merge lt (x :: xs) (y :: ys) = y :: merge lt xs ys := by
  unfold merge
  rw [show (x :: xs).length + (y :: ys).length = (xs.length + ys.length + 1) + 1 by simp; omega, mg, if_neg (by simp [h]), if_neg (by simp [h2]), mg_fuel _ (xs.length + ys.length) xs ys (by omega) (by omega)]

theorem merge_length_le (n : Nat) : ∀ (xs ys : List (K × α)), xs.length + ys.length ≤ n → (merge lt xs ys).length ≤ xs.length + ys.length := by
  induction n with
  | zero =>
    intro xs ys h
    have e1 : xs = [] := List.eq_nil_of_length_eq_zero (by omega)
    subst e1
    rw [merge_nil_left]; simp
  | succ n ih =>
    intro xs ys h
    cases xs with
    | nil => rw [merge_nil_left]; simp
    | cons x xs =>
      cases ys with
      | nil => rw [merge_nil_right]; simp
      | cons y ys =>
        simp only [List.length_cons] at h
        cases h1 : lt x.1 y.1 with
        | true => rw [merge_left h1]; have := ih xs (y :: ys) (by simp; omega); simp at this ⊢; omega
        | false =>
          cases h2 : lt y.1 x.1 with
          | true => rw [merge_right h1 h2]; have := ih (x :: xs) ys (by simp; omega); simp at this ⊢; omega
          | false => rw [merge_both h1 h2]; have := ih xs ys (by omega); simp; omega

theorem mem_merge (n : Nat) : ∀ (xs ys : List (K × α)) (z : K × α), xs.length + ys.length ≤ n → z ∈ merge lt xs ys → z ∈ xs ∨ z ∈ ys := by
  induction n with
  | zero =>
    intro xs ys z h hz
    have e1 : xs = [] := List.eq_nil_of_length_eq_zero (by omega)
    subst e1
    rw [merge_nil_left] at hz; exact .inr hz
  | succ n ih =>
    intro xs ys z h hz
    cases xs with
    | nil => rw [merge_nil_left] at hz; exact .inr hz
    | cons x xs =>
      cases ys with
      | nil => rw [merge_nil_right] at hz; exact .inl hz
      | cons y ys =>
        simp only [List.length_cons] at h
        cases h1 : lt x.1 y.1 with
        | true =>
          rw [merge_left h1] at hz
          rcases List.mem_cons.1 hz with rfl | hz
          · exact .inl (by simp)
          · rcases ih xs (y :: ys) z (by simp; omega) hz with h | h
            · exact .inl (by simp [h])
            · exact .inr h
        | false =>
          cases h2 : lt y.1 x.1 with
          | true =>
            rw [merge_right h1 h2] at hz
            rcases List.mem_cons.1 hz with rfl | hz
            · exact .inr (by simp)
            · rcases ih (x :: xs) ys z (by simp; omega) hz with h | h
              · exact .inl h
              · exact .inr (by simp [h])
          | false =>
            rw [merge_both h1 h2] at hz
            rcases List.mem_cons.1 hz with rfl | hz
            · exact .inr (by simp)
            · rcases ih xs ys z (by omega) hz with h | h
              · exact .inl (by simp [h])
              · exact .inr (by simp [h])

/-- Payloads do not steer the merge. -/
theorem merge_map {β : Type} (f : α → β) (n : Nat) : ∀ (xs ys : List (K × α)), xs.length + ys.length ≤ n → (merge lt xs ys).map (fun e => (e.1, f e.2)) = merge lt (xs.map (fun e => (e.1, f e.2))) (ys.map (fun e => (e.1, f e.2))) := by
  induction n with
  | zero =>
    intro xs ys h
    have e1 : xs = [] := List.eq_nil_of_length_eq_zero (by omega)
    subst e1
    rw [merge_nil_left, List.map_nil, merge_nil_left]
  | succ n ih =>
    intro xs ys h
    cases xs with
    | nil => rw [merge_nil_left, List.map_nil, merge_nil_left]
    | cons x xs =>
      cases ys with
      | nil => rw [merge_nil_right, List.map_nil, merge_nil_right]
      | cons y ys =>
        simp only [List.length_cons] at h
        cases h1 : lt x.1 y.1 with
        | true => rw [merge_left h1, List.map_cons, List.map_cons, List.map_cons, merge_left (x := (x.1, f x.2)) (y := (y.1, f y.2)) h1, ih xs (y :: ys) (by simp; omega)]; rfl
        | false =>
          cases h2 : lt y.1 x.1 with
          | true => rw [merge_right h1 h2, List.map_cons, List.map_cons, List.map_cons, merge_right (x := (x.1, f x.2)) (y := (y.1, f y.2)) h1 h2, ih (x :: xs) ys (by simp; omega)]; rfl
          | false => rw [merge_both h1 h2, List.map_cons, List.map_cons, List.map_cons, merge_both (x := (x.1, f x.2)) (y := (y.1, f y.2)) h1 h2, ih xs ys (by omega)]

end

section
variable {K α : Type} [DecidableEq K] {lt : K → K → Bool}

def look (k : K) : List (K × α) → Option α
  | [] => none
  | x :: r => if x.1 = k then some x.2 else look k r

/-- A key below all keys of the list is not looked up. -/
theorem look_below (O : Ord lt) {k : K} : ∀ (L : List (K × α)), (∀ z ∈ L, lt k z.1 = true) → look k L = none
  | [], _ => rfl
  | x :: r, h => by
    have h0 := h x (by simp)
    rw [look, if_neg, look_below O r (fun z hz => h z (by simp [hz]))]
    intro e
    rw [e, O.irr] at h0
    cases h0

theorem merge_spec (O : Ord lt) (n : Nat) : ∀ (xs ys : List (K × α)), xs.length + ys.length ≤ n → Srt lt xs → Srt lt ys →
    Srt lt (merge lt xs ys) ∧ ∀ k, look k (merge lt xs ys) = match look k ys with | some t => some t | none => look k xs := by
  induction n with
  | zero =>
    intro xs ys h hx hy
    have e1 : xs = [] := List.eq_nil_of_length_eq_zero (by omega)
    subst e1
    rw [merge_nil_left]
    exact ⟨hy, fun k => by cases look k ys <;> rfl⟩
  | succ n ih =>
    intro xs ys h hx hy
    cases xs with
    | nil => rw [merge_nil_left]; exact ⟨hy, fun k => by cases look k ys <;> rfl⟩
    | cons x xs =>
      cases ys with
      | nil => rw [merge_nil_right]; exact ⟨hx, fun k => rfl⟩
      | cons y ys =>
        simp only [List.length_cons] at h
        obtain ⟨hx1, hx2⟩ := List.pairwise_cons.1 hx
        obtain ⟨hy1, hy2⟩ := List.pairwise_cons.1 hy
        cases h1 : lt x.1 y.1 with
        | true =>
          rw [merge_left h1]
          obtain ⟨r1, r2⟩ := ih xs (y :: ys) (by simp; omega) hx2 hy
          have hall : ∀ z ∈ y :: ys, lt x.1 z.1 = true := fun z hz => by
            rcases List.mem_cons.1 hz with rfl | hz
            · exact h1
            · exact O.tr h1 (hy1 z hz)
          refine ⟨List.pairwise_cons.2 ⟨fun z hz => ?_, r1⟩, fun k => ?_⟩
          · rcases mem_merge _ xs (y :: ys) z (Nat.le_refl _) hz with hz | hz
            · exact hx1 z hz
            · exact hall z hz
          · rw [look, r2 k]
            by_cases e : x.1 = k
            · rw [if_pos e]
              subst e
              rw [look_below O (y :: ys) hall]
              simp [look]
            · rw [if_neg e]
              cases hl : look k (y :: ys) with
              | some t => rfl
              | none => simp [look, e]
        | false =>
          cases h2 : lt y.1 x.1 with
          | true =>
            rw [merge_right h1 h2]
            obtain ⟨r1, r2⟩ := ih (x :: xs) ys (by simp; omega) hx hy2
            refine ⟨List.pairwise_cons.2 ⟨fun z hz => ?_, r1⟩, fun k => ?_⟩
            · rcases mem_merge _ (x :: xs) ys z (Nat.le_refl _) hz with hz | hz
              · rcases List.mem_cons.1 hz with rfl | hz
                · exact h2
                · exact O.tr h2 (hx1 z hz)
              · exact hy1 z hz
            · rw [look, r2 k]
              by_cases e : y.1 = k
              · rw [if_pos e]
                simp [look, e]
              · rw [if_neg e]
                simp [look, e]
          | false =>
            have hxy := O.tot h1 h2
            rw [merge_both h1 h2]
            obtain ⟨r1, r2⟩ := ih xs ys (by omega) hx2 hy2
            refine ⟨List.pairwise_cons.2 ⟨fun z hz => ?_, r1⟩, fun k => ?_⟩
            · rcases mem_merge _ xs ys z (Nat.le_refl _) hz with hz | hz
              · rw [← hxy]; exact hx1 z hz
              · exact hy1 z hz
            · rw [look, r2 k]
              by_cases e : y.1 = k
              · rw [if_pos e]
                simp [look, e]
              · rw [if_neg e]
                have e' : ¬ x.1 = k := by rw [hxy]; exact e
                simp [look, e, e']

theorem merge_srt (O : Ord lt) {xs ys : List (K × α)} (hx : Srt lt xs) (hy : Srt lt ys) : Srt lt (merge lt xs ys) := (merge_spec O _ xs ys (Nat.le_refl _) hx hy).1
theorem merge_look (O : Ord lt) {xs ys : List (K × α)} (hx : Srt lt xs) (hy : Srt lt ys) (k : K) : look k (merge lt xs ys) = match look k ys with | some t => some t | none => look k xs := (merge_spec O _ xs ys (Nat.le_refl _) hx hy).2 k

theorem look_mem {k : K} {t : α} : ∀ {L : List (K × α)}, look k L = some t → (k, t) ∈ L
  | [], h => by simp [look] at h
  | x :: r, h => by
    rw [look] at h
    by_cases e : x.1 = k
    · rw [if_pos e] at h
      simp at h
      subst e h
      simp
    · rw [if_neg e] at h
      simp [look_mem h]
theorem look_of_mem (O : Ord lt) {k : K} {t : α} : ∀ {L : List (K × α)}, Srt lt L → (k, t) ∈ L → look k L = some t
  | [], _, h => by simp at h
  | x :: r, hs, h => by
    obtain ⟨h1, h2⟩ := List.pairwise_cons.1 hs
    rw [look]
    rcases List.mem_cons.1 h with e | h
    · rw [← e, if_pos rfl]
    · rw [if_neg, look_of_mem O h2 h]
      intro e
      have := h1 _ h
      simp only at this
      rw [e, O.irr] at this
      cases this
theorem look_none {k : K} : ∀ {L : List (K × α)}, look k L = none → ∀ t, (k, t) ∉ L
  | [], _, t, h => by simp at h
  | x :: r, hn, t, h => by
    rw [look] at hn
    by_cases e : x.1 = k
    · rw [if_pos e] at hn; cases hn
    · rw [if_neg e] at hn
      rcases List.mem_cons.1 h with h | h
      · exact e (by rw [← h])
      · exact look_none hn t h

theorem srt_ext (O : Ord lt) : ∀ (L R : List (K × α)), Srt lt L → Srt lt R → (∀ k, look k L = look k R) → L = R
  | [], [], _, _, _ => rfl
  | [], y :: ys, _, _, h => by have := h y.1; simp [look] at this
  | x :: xs, [], _, _, h => by have := h x.1; simp [look] at this
  | x :: xs, y :: ys, hx, hy, h => by
    obtain ⟨hx1, hx2⟩ := List.pairwise_cons.1 hx
    obtain ⟨hy1, hy2⟩ := List.pairwise_cons.1 hy
    have hxy : x.1 = y.1 := by
      refine O.tot ?_ ?_
      · cases e : lt x.1 y.1 with
        | false => rfl
        | true =>
          have h1 := h x.1
          rw [look_below O (y :: ys) (fun z hz => by
            rcases List.mem_cons.1 hz with rfl | hz
            · exact e
            · exact O.tr e (hy1 z hz))] at h1
          simp [look] at h1
      · cases e : lt y.1 x.1 with
        | false => rfl
        | true =>
          have h1 := h y.1
          rw [look_below O (x :: xs) (fun z hz => by
            rcases List.mem_cons.1 hz with rfl | hz
            · exact e
            · exact O.tr e (hx1 z hz))] at h1
          simp [look] at h1
    have hp : x.2 = y.2 := by have h1 := h x.1; simp [look, hxy] at h1; exact h1
    have ht : xs = ys := by
      refine srt_ext O xs ys hx2 hy2 fun k => ?_
      by_cases e : x.1 = k
      · subst e
        rw [look_below O xs hx1, look_below O ys (by rw [hxy]; exact hy1)]
      · have h1 := h k
        simp [look, e, hxy ▸ e] at h1
        exact h1
    rw [ht, Prod.ext hxy hp]

theorem merge_assoc (O : Ord lt) {A B C : List (K × α)} (ha : Srt lt A) (hb : Srt lt B) (hc : Srt lt C) : merge lt (merge lt A B) C = merge lt A (merge lt B C) := by
  have hab := merge_srt O ha hb
  have hbc := merge_srt O hb hc
  refine srt_ext O _ _ (merge_srt O hab hc) (merge_srt O ha hbc) fun k => ?_
  rw [merge_look O hab hc, merge_look O ha hbc, merge_look O ha hb, merge_look O hb hc]
  cases look k C with
  | some t => rfl
  | none => cases look k B <;> rfl

end

/-! ### Searching -/
section
variable {K : Type} {lt : K → K → Bool}

/-- The first n keys of f increase strictly. -/
def Inc (lt : K → K → Bool) (f : Nat → K) (n : Nat) : Prop := ∀ i j, i < j → j < n → lt (f i) (f j) = true

/-- What the search knows between lo and hi. -/
structure Between (lt : K → K → Bool) (f : Nat → K) (n : Nat) (k : K) (lo hi : Nat) : Prop where
  le : lo ≤ hi
  hi_le : hi ≤ n
  left : ∀ r, r < lo → lt (f r) k = true
  right : ∀ r, hi ≤ r → r < n → lt (f r) k = false

theorem Between.start (lt : K → K → Bool) (f : Nat → K) (n : Nat) (k : K) : Between lt f n k 0 n := ⟨Nat.zero_le _, Nat.le_refl _, fun r h => by omega, fun r h1 h2 => by omega⟩

theorem Between.up (O : Ord lt) {f : Nat → K} {n : Nat} {k : K} {lo hi m : Nat} (hf : Inc lt f n) (h : Between lt f n k lo hi) (h1 : lo ≤ m) (h2 : m < hi) (h3 : lt (f m) k = true) : Between lt f n k (m + 1) hi := by
  refine ⟨by omega, h.hi_le, fun r hr => ?_, h.right⟩
  by_cases e : r = m
  · subst e; exact h3
  · exact O.tr (hf r m (by omega) (by have := h.hi_le; omega)) h3

theorem Between.down (O : Ord lt) {f : Nat → K} {n : Nat} {k : K} {lo hi m : Nat} (hf : Inc lt f n) (h : Between lt f n k lo hi) (h1 : lo ≤ m) (h2 : m < hi) (h3 : lt (f m) k = false) : Between lt f n k lo m := by
  refine ⟨h1, by have := h.hi_le; omega, h.left, fun r hr hn => ?_⟩
  by_cases e : r = m
  · subst e; exact h3
  · cases hq : lt (f r) k with
    | false => rfl
    | true =>
      have := O.tr (hf m r (by omega) hn) hq
      rw [h3] at this
      cases this

/-- Where the search ends, the key lies, if it lies anywhere. -/
theorem Between.found (O : Ord lt) {f : Nat → K} {n : Nat} {k : K} {lo r : Nat} (hf : Inc lt f n) (h : Between lt f n k lo lo) (hr : r < n) (e : f r = k) : lo = r := by
  have h1 : ¬ r < lo := fun hl => by
    have := h.left r hl
    rw [e, O.irr] at this
    cases this
  by_cases h2 : lo < r
  · have := hf lo r h2 hr
    rw [e, h.right lo (Nat.le_refl _) (by omega)] at this
    cases this
  · omega

end

end Go.Proofs.Qxb6605327aMods.Plain
