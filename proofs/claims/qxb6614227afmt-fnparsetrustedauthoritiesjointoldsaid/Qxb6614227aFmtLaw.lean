/-
  DERIVED. Seat b6614227aF: the plain law: what the reading of a list of trusted authorities comes to (0: no fault; 1: cut short; 2: an empty name; 3: an undefined type), and that it goes entry by entry. No Go in sight.
-/
namespace Go.Proofs.Qxb6614227aFmt

/-- The two bytes ahead of a name, as a number. -/
def len2 (r : List Int) : Nat := (r.getD 0 0 * 256 + r.getD 1 0).toNat

def pjF : Nat → List Int → Nat
  | 0, _ => 0
  | _ + 1, [] => 0
  | f + 1, t :: r =>
    if t = 0 then pjF f r
    else if t = 1 ∨ t = 3 then (if r.length < 20 then 1 else pjF f (r.drop 20))
    else if t = 2 then (if r.length < 2 then 1 else if r.length < 2 + len2 r then 1 else if len2 r = 0 then 2 else pjF f (r.drop (2 + len2 r)))
    else 3

def pj (l : List Int) : Nat := pjF l.length l

theorem pjF_nil (f : Nat) : pjF f [] = 0 := by cases f <;> rfl

theorem pjF_fuel : ∀ (f g : Nat) (l : List Int), l.length ≤ f → l.length ≤ g → pjF f l = pjF g l := by
  intro f
  induction f with
  | zero =>
    intro g l h _
    have : l = [] := List.length_eq_zero_iff.1 (by omega)
    subst this
    rw [pjF_nil, pjF_nil]
  | succ f ih =>
    intro g l hf hg
    cases l with
    | nil => rw [pjF_nil, pjF_nil]
    | cons t r =>
      cases g with
      | zero => simp at hg
      | succ g =>
        simp only [List.length_cons] at hf hg
        have e0 := ih g r (by omega) (by omega)
        have e1 : ∀ k, pjF f (r.drop k) = pjF g (r.drop k) := fun k => ih g (r.drop k) (by simp; omega) (by simp; omega)
        simp only [pjF, e0, e1]

theorem pj_of (f : Nat) (l : List Int) (h : l.length ≤ f) : pjF f l = pj l := pjF_fuel f l.length l h (Nat.le_refl _)

theorem pj_nil : pj [] = 0 := rfl

theorem pj_cons (t : Int) (r : List Int) : pj (t :: r) =
    if t = 0 then pj r
    else if t = 1 ∨ t = 3 then (if r.length < 20 then 1 else pj (r.drop 20))
    else if t = 2 then (if r.length < 2 then 1 else if r.length < 2 + len2 r then 1 else if len2 r = 0 then 2 else pj (r.drop (2 + len2 r)))
    else 3 := by
  have e1 : ∀ k, pjF r.length (r.drop k) = pj (r.drop k) := fun k => pj_of _ _ (by simp)
  show pjF (r.length + 1) (t :: r) = _
  simp only [pjF, e1]
  rfl

theorem len2_append (r b : List Int) (h : 2 ≤ r.length) : len2 (r ++ b) = len2 r := by
  match r, h with
  | x :: y :: r, _ => simp [len2]

theorem drop_append (k : Nat) (r b : List Int) (h : k ≤ r.length) : (r ++ b).drop k = r.drop k ++ b := by
  rw [List.drop_append]
  simp [Nat.sub_eq_zero_of_le h]

/-- AFTER AN ACCEPTED LIST what follows is judged as a list of its own; a fault that is not a cut-short one stays whatever follows. -/
theorem join_all (b : List Int) : ∀ (n : Nat) (a : List Int), a.length ≤ n → (pj a = 0 → pj (a ++ b) = pj b) ∧ (2 ≤ pj a → pj (a ++ b) = pj a) := by
  intro n
  induction n with
  | zero =>
    intro a h
    have : a = [] := List.length_eq_zero_iff.1 (by omega)
    subst this
    simp [pj_nil]
  | succ n ih =>
    intro a h
    cases a with
    | nil => simp [pj_nil]
    | cons t r =>
      simp only [List.length_cons] at h
      rw [List.cons_append, pj_cons, pj_cons t (r ++ b)]
      by_cases h0 : t = 0
      · simp only [if_pos h0]
        exact ih r (by omega)
      · simp only [if_neg h0]
        by_cases h1 : t = 1 ∨ t = 3
        · simp only [if_pos h1]
          by_cases h2 : r.length < 20
          · simp only [if_pos h2]
            exact ⟨fun e => by omega, fun e => by omega⟩
          · have h3 : ¬ (r ++ b).length < 20 := by simp; omega
            simp only [if_neg h2, if_neg h3]
            rw [drop_append 20 r b (by omega)]
            exact ih (r.drop 20) (by simp; omega)
        · simp only [if_neg h1]
          by_cases h2 : t = 2
          · simp only [if_pos h2]
            by_cases h3 : r.length < 2
            · simp only [if_pos h3]
              exact ⟨fun e => by omega, fun e => by omega⟩
            · have h4 : ¬ (r ++ b).length < 2 := by simp; omega
              simp only [if_neg h3, if_neg h4]
              rw [len2_append r b (by omega)]
              by_cases h5 : r.length < 2 + len2 r
              · simp only [if_pos h5]
                exact ⟨fun e => by omega, fun e => by omega⟩
              · have h6 : ¬ (r ++ b).length < 2 + len2 r := by simp; omega
                simp only [if_neg h5, if_neg h6]
                by_cases h7 : len2 r = 0
                · simp only [if_pos h7]
                  exact ⟨fun e => by omega, fun _ => trivial⟩
                · simp only [if_neg h7]
                  rw [drop_append (2 + len2 r) r b (by omega)]
                  exact ih (r.drop (2 + len2 r)) (by simp; omega)
          · simp only [if_neg h2]
            exact ⟨fun e => by omega, fun _ => trivial⟩

theorem join_ok {a b : List Int} (h : pj a = 0) : pj (a ++ b) = pj b := (join_all b a.length a (Nat.le_refl _)).1 h
theorem join_bad {a b : List Int} (h : 2 ≤ pj a) : pj (a ++ b) = pj a := (join_all b a.length a (Nat.le_refl _)).2 h

theorem pj_le : ∀ (f : Nat) (l : List Int), pjF f l ≤ 3 := by
  intro f
  induction f with
  | zero => intro l; simp [pjF]
  | succ f ih =>
    intro l
    cases l with
    | nil => simp [pjF]
    | cons t r =>
      have e0 := ih r
      have e1 := ih (r.drop 20)
      have e2 := ih (r.drop (2 + len2 r))
      simp only [pjF]
      repeat' split
      all_goals omega

end Go.Proofs.Qxb6614227aFmt
