/-
  Seat b6603298aM: components of a path, plain: splitting at slashes, joining, and the model's answer against within's.
-/
import Derived.Test.Qxb6603298aModsPlain
namespace Go.Proofs.Qxb6603298aMods.Plain

/-- Split at slashes, the piece in hand first. -/
def sp : List UInt8 → List UInt8 → List (List UInt8)
  | cur, [] => [cur]
  | cur, c :: r => if c = 47 then cur :: sp [] r else sp (cur ++ [c]) r

def comps (l : List UInt8) : List (List UInt8) := if l.length ≤ 1 then [] else sp [] (l.drop 1)

/-- Pieces joined by slashes. -/
def jo : List (List UInt8) → List UInt8
  | [] => []
  | [x] => x
  | x :: y :: t => x ++ 47 :: jo (y :: t)

theorem sp_slash (cur r : List UInt8) : sp cur (47 :: r) = cur :: sp [] r := by simp [sp]
theorem sp_other (cur r : List UInt8) (c : UInt8) (h : ¬ c = 47) : sp cur (c :: r) = sp (cur ++ [c]) r := by simp [sp, h]
theorem sp_ne (l : List UInt8) : ∀ cur, sp cur l ≠ [] := by
  induction l with
  | nil => intro cur; simp [sp]
  | cons c r ih =>
    intro cur
    by_cases h : c = 47
    · subst h; rw [sp_slash]; simp
    · rw [sp_other _ _ _ h]; exact ih _

theorem jo_cons (x : List UInt8) {t : List (List UInt8)} (h : t ≠ []) : jo (x :: t) = x ++ 47 :: jo t := by
  cases t with
  | nil => exact absurd rfl h
  | cons y t => rfl
theorem jo_append {a b : List (List UInt8)} (ha : a ≠ []) (hb : b ≠ []) : jo (a ++ b) = jo a ++ 47 :: jo b := by
  induction a with
  | nil => exact absurd rfl ha
  | cons x t ih =>
    by_cases ht : t = []
    · subst ht
      rw [List.cons_append, List.nil_append, jo_cons x hb]; rfl
    · rw [List.cons_append, jo_cons x (by simp [ht]), ih ht, jo_cons x ht]; simp

theorem jo_sp (l : List UInt8) : ∀ cur, jo (sp cur l) = cur ++ l := by
  induction l with
  | nil => intro cur; simp [sp, jo]
  | cons c r ih =>
    intro cur
    by_cases h : c = 47
    · subst h; rw [sp_slash, jo_cons _ (sp_ne r []), ih]; simp
    · rw [sp_other _ _ _ h, ih]; simp

theorem sp_append (a b : List UInt8) : ∀ cur, sp cur (a ++ 47 :: b) = sp cur a ++ sp [] b := by
  induction a with
  | nil => intro cur; rw [List.nil_append, sp_slash]; rfl
  | cons c r ih =>
    intro cur
    by_cases h : c = 47
    · subst h; rw [List.cons_append, sp_slash, sp_slash, ih]; rfl
    · rw [List.cons_append, sp_other _ _ _ h, sp_other _ _ _ h, ih]

/-- The model's answer. -/
def model (bc pc : List (List UInt8)) : List UInt8 × Bool := if pc.take bc.length = bc then (47 :: jo (pc.drop bc.length), true) else ([], false)

theorem comps_one : comps [47] = [] := rfl
theorem comps_more {r : List UInt8} (h : r ≠ []) : comps (47 :: r) = sp [] r := by
  unfold comps
  rw [if_neg]
  · rfl
  · cases r with
    | nil => exact absurd rfl h
    | cons c r => simp

/-- within answers as the model, for paths in slash form. -/
theorem wi_model {base p : List UInt8} (hb : sf base = true) (hp : sf p = true) : wi base p = model (comps base) (comps p) := by
  obtain ⟨b, rfl, hb'⟩ := sf_cases hb
  obtain ⟨q, rfl, hp'⟩ := sf_cases hp
  by_cases b0 : b = []
  · subst b0
    unfold wi model
    rw [if_pos rfl, comps_one]
    simp only [List.length_nil, List.take_zero, List.drop_zero, if_true]
    by_cases q0 : q = []
    · subst q0; rfl
    · rw [comps_more q0, jo_sp]; rfl
  have hne : ¬ (47 :: b) = [47] := by simpa using b0
  unfold wi
  rw [if_neg hne, comps_more b0]
  by_cases q0 : q = []
  · subst q0
    have e1 : ¬ ([47] : List UInt8) = 47 :: b := fun e => hne e.symm
    rw [if_neg e1, if_neg, comps_one]
    · unfold model
      rw [if_neg]
      rw [List.take_nil]
      exact fun e => sp_ne b [] e.symm
    · intro e
      have := congrArg List.length e
      simp at this
  rw [comps_more q0]
  by_cases e : q = b
  · subst e
    rw [if_pos rfl]
    unfold model
    rw [List.take_length, if_pos rfl, List.drop_length]; rfl
  rw [if_neg (by simpa using e)]
  by_cases c : (47 :: q).take ((47 :: b).length + 1) = (47 :: b) ++ [47]
  · rw [if_pos c]
    have hs := take_split c
    generalize hrest : (47 :: q).drop ((47 :: b).length + 1) = rest at hs ⊢
    rw [List.cons_append] at hs
    obtain ⟨_, hs'⟩ := List.cons.inj hs
    subst hs'
    unfold model
    rw [sp_append, List.take_left' rfl, if_pos rfl, List.drop_left' rfl, jo_sp]; rfl
  · rw [if_neg c]
    unfold model
    rw [if_neg]
    intro h
    apply c
    have hs := List.take_append_drop (sp [] b).length (sp [] q)
    rw [h] at hs
    by_cases hd : (sp [] q).drop (sp [] b).length = []
    · rw [hd, List.append_nil] at hs
      exfalso; apply e
      have := congrArg jo hs
      rw [jo_sp, jo_sp] at this
      simpa using this.symm
    · have := congrArg jo hs
      rw [jo_append (sp_ne b []) hd, jo_sp, jo_sp] at this
      simp only [List.nil_append] at this
      rw [← this]
      have e2 : 47 :: (b ++ 47 :: jo ((sp [] q).drop (sp [] b).length)) = ((47 :: b) ++ [47]) ++ jo ((sp [] q).drop (sp [] b).length) := by simp
      rw [e2]
      exact List.take_left' (by simp)

theorem jo_snoc (xs : List (List UInt8)) (y : List UInt8) (h : xs ≠ []) : jo (xs ++ [y]) = jo xs ++ 47 :: y := by
  rw [jo_append h (by simp)]; rfl

end Go.Proofs.Qxb6603298aMods.Plain
