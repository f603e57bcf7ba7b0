/-
  Lists held against each other, element by element: the plain law. No program in sight.
-/
import Derived.Test.YtgogocodhilfnaaBase
namespace Go.Proofs.Ytgogocodhilfnaa
set_option linter.unusedVariables false

/-- which of two numbers is less -/
def cmpI (a b : Int) : Int := if a < b then -1 else if b < a then 1 else 0
/-- which of two lists is less -/
def cmpBy {α : Type} (c : α → α → Int) : List α → List α → Int
  | [], [] => 0
  | [], _ :: _ => -1
  | _ :: _, [] => 1
  | x :: xs, y :: ys => if c x y = 0 then cmpBy c xs ys else c x y
theorem cmpI_lt {a b : Int} (h : a < b) : cmpI a b = -1 := by rw [cmpI, if_pos h]
theorem cmpI_gt {a b : Int} (h : b < a) : cmpI a b = 1 := by rw [cmpI, if_neg (by omega), if_pos h]
theorem cmpI_self (a : Int) : cmpI a a = 0 := by rw [cmpI, if_neg (by omega), if_neg (by omega)]
theorem cmpI_zero {a b : Int} : cmpI a b = 0 ↔ a = b := by
  unfold cmpI
  split
  · constructor
    · intro h; omega
    · intro h; omega
  · split
    · constructor
      · intro h; omega
      · intro h; omega
    · constructor
      · intro h; omega
      · intro h; rfl
theorem cmpI_neg (a b : Int) : cmpI b a = -cmpI a b := by
  unfold cmpI
  split
  · split
    · omega
    · rfl
  · split
    · rfl
    · rfl
section
variable {α : Type} {c : α → α → Int}
theorem cmpBy_step {xs ys : List α} {k : Nat} {x y : α} (hx : xs[k]? = some x) (hy : ys[k]? = some y) (h : c x y = 0) (hh : cmpBy c xs ys = cmpBy c (xs.drop k) (ys.drop k)) : cmpBy c xs ys = cmpBy c (xs.drop (k + 1)) (ys.drop (k + 1)) := by
  obtain ⟨h1, rfl⟩ := List.getElem?_eq_some_iff.1 hx
  obtain ⟨h2, rfl⟩ := List.getElem?_eq_some_iff.1 hy
  rw [hh, List.drop_eq_getElem_cons h1, List.drop_eq_getElem_cons h2, cmpBy, if_pos h]
theorem cmpBy_stop {xs ys : List α} {k : Nat} {x y : α} (hx : xs[k]? = some x) (hy : ys[k]? = some y) (h : ¬ c x y = 0) (hh : cmpBy c xs ys = cmpBy c (xs.drop k) (ys.drop k)) : cmpBy c xs ys = c x y := by
  obtain ⟨h1, rfl⟩ := List.getElem?_eq_some_iff.1 hx
  obtain ⟨h2, rfl⟩ := List.getElem?_eq_some_iff.1 hy
  rw [hh, List.drop_eq_getElem_cons h1, List.drop_eq_getElem_cons h2, cmpBy, if_neg h]
theorem cmpBy_longer {xs ys : List α} {k : Nat} (hx : k < xs.length) (hy : ys.length ≤ k) (hh : cmpBy c xs ys = cmpBy c (xs.drop k) (ys.drop k)) : cmpBy c xs ys = 1 := by
  rw [hh, List.drop_eq_getElem_cons hx, List.drop_of_length_le hy, cmpBy]
theorem cmpBy_shorter {xs ys : List α} {k : Nat} (hx : xs.length ≤ k) (hy : k < ys.length) (hh : cmpBy c xs ys = cmpBy c (xs.drop k) (ys.drop k)) : cmpBy c xs ys = -1 := by
  rw [hh, List.drop_eq_getElem_cons hy, List.drop_of_length_le hx, cmpBy]
theorem cmpBy_equal {xs ys : List α} {k : Nat} (hx : xs.length ≤ k) (hy : ys.length ≤ k) (hh : cmpBy c xs ys = cmpBy c (xs.drop k) (ys.drop k)) : cmpBy c xs ys = 0 := by
  rw [hh, List.drop_of_length_le hx, List.drop_of_length_le hy, cmpBy]
theorem cmpBy_zero (hc : ∀ a b, c a b = 0 ↔ a = b) (xs ys : List α) : cmpBy c xs ys = 0 ↔ xs = ys := by
  induction xs generalizing ys with
  | nil => cases ys <;> simp [cmpBy]
  | cons x xs ih =>
    cases ys with
    | nil => simp [cmpBy]
    | cons y ys =>
      rw [cmpBy]
      by_cases h : c x y = 0
      · rw [if_pos h, ih ys, List.cons.injEq, ← hc x y]
        simp [h]
      · rw [if_neg h, List.cons.injEq, ← hc x y]
        simp [h]
theorem cmpBy_neg (hc : ∀ a b, c b a = -c a b) (xs ys : List α) : cmpBy c ys xs = -cmpBy c xs ys := by
  induction xs generalizing ys with
  | nil => cases ys <;> simp [cmpBy]
  | cons x xs ih =>
    cases ys with
    | nil => simp [cmpBy]
    | cons y ys =>
      rw [cmpBy, cmpBy, hc x y]
      by_cases h : c x y = 0
      · rw [if_pos h, if_pos (by omega), ih ys]
      · rw [if_neg h, if_neg (by omega)]
theorem cmpBy_front (hc : ∀ a, c a a = 0) (f xs ys : List α) : cmpBy c (f ++ xs) (f ++ ys) = cmpBy c xs ys := by
  induction f with
  | nil => rfl
  | cons a f ih => rw [List.cons_append, List.cons_append, cmpBy, if_pos (hc a), ih]
theorem cmpBy_pm (hc : ∀ a b, c a b = -1 ∨ c a b = 0 ∨ c a b = 1) (xs ys : List α) : cmpBy c xs ys = -1 ∨ cmpBy c xs ys = 0 ∨ cmpBy c xs ys = 1 := by
  induction xs generalizing ys with
  | nil => cases ys <;> simp [cmpBy]
  | cons x xs ih =>
    cases ys with
    | nil => simp [cmpBy]
    | cons y ys =>
      rw [cmpBy]
      split
      · exact ih ys
      · exact hc x y
theorem cmpBy_trans (hz : ∀ a b, c a b = 0 ↔ a = b) (ht : ∀ a b d, c a b ≤ 0 → c b d ≤ 0 → c a d ≤ 0) (hn : ∀ a b, c b a = -c a b) (xs ys zs : List α) (h1 : cmpBy c xs ys ≤ 0) (h2 : cmpBy c ys zs ≤ 0) :
    cmpBy c xs zs ≤ 0 := by
  induction xs generalizing ys zs with
  | nil => cases zs <;> simp [cmpBy]
  | cons x xs ih =>
    cases ys with
    | nil => simp [cmpBy] at h1
    | cons y ys =>
      cases zs with
      | nil => simp [cmpBy] at h2
      | cons z zs =>
        rw [cmpBy] at h1 h2 ⊢
        by_cases e1 : c x y = 0
        · rw [if_pos e1] at h1
          obtain rfl := (hz x y).1 e1
          by_cases e2 : c x z = 0
          · rw [if_pos e2] at h2 ⊢
            exact ih ys zs h1 h2
          · rw [if_neg e2] at h2 ⊢
            exact h2
        · rw [if_neg e1] at h1
          by_cases e2 : c y z = 0
          · obtain rfl := (hz y z).1 e2
            rw [if_neg e1]
            exact h1
          · rw [if_neg e2] at h2
            have h3 := ht x y z h1 h2
            by_cases e3 : c x z = 0
            · obtain rfl := (hz x z).1 e3
              have := hn x y
              omega
            · rw [if_neg e3]
              exact h3
end
theorem cmpI_pm (a b : Int) : cmpI a b = -1 ∨ cmpI a b = 0 ∨ cmpI a b = 1 := by
  unfold cmpI
  split
  · exact .inl rfl
  · split
    · exact .inr (.inr rfl)
    · exact .inr (.inl rfl)
theorem cmpI_le {a b : Int} : cmpI a b ≤ 0 ↔ a ≤ b := by
  unfold cmpI
  split
  · constructor <;> omega
  · split
    · constructor <;> omega
    · constructor <;> omega
theorem cmpI_trans (a b d : Int) (h1 : cmpI a b ≤ 0) (h2 : cmpI b d ≤ 0) : cmpI a d ≤ 0 := by
  rw [cmpI_le] at h1 h2 ⊢
  omega
/-- of numbers -/
def cmpL (xs ys : List Int) : Int := cmpBy cmpI xs ys
end Go.Proofs.Ytgogocodhilfnaa
