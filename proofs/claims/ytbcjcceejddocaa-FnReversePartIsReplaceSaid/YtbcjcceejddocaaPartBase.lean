/-
  Parts of a list reversed one after the other: the plain law. No program in sight.
-/
import Derived.Test.YtbcjcceejddocaaPairBase
namespace Go.Proofs.Ytbcjcceejddocaa
set_option linter.unusedVariables false

/-- a number modulo n + 1, as one of 0 to n -/
def rnd (a : Int) (n : Nat) : Nat := (a % ((n : Int) + 1)).toNat
theorem rnd_le (a : Int) (n : Nat) : rnd a n ≤ n := by
  have h1 := Int.emod_nonneg a (show ((n : Int) + 1) ≠ 0 by omega)
  have h2 := Int.emod_lt_of_pos a (show 0 < (n : Int) + 1 by omega)
  unfold rnd
  omega
theorem rnd_cast (a : Int) (n : Nat) : ((rnd a n : Nat) : Int) = a % ((n : Int) + 1) := by
  have h1 := Int.emod_nonneg a (show ((n : Int) + 1) ≠ 0 by omega)
  unfold rnd
  omega
theorem rnd_pos {a : Int} {n : Nat} (h : 0 ≤ a.tmod ((n : Int) + 1)) : a.tmod ((n : Int) + 1) = ((rnd a n : Nat) : Int) := by
  rw [rnd_cast]
  have h1 : a = a.tmod ((n : Int) + 1) + ((n : Int) + 1) * a.tdiv ((n : Int) + 1) := (Int.tmod_add_mul_tdiv a _).symm
  have h2 := Int.tmod_lt_of_pos a (show 0 < (n : Int) + 1 by omega)
  have h3 : a % ((n : Int) + 1) = (a.tmod ((n : Int) + 1)) % ((n : Int) + 1) := by
    conv => lhs; rw [h1]
    rw [Int.add_mul_emod_self_left]
  rw [h3, Int.emod_eq_of_lt h h2]
theorem rnd_neg {a : Int} {n : Nat} (h : a.tmod ((n : Int) + 1) < 0) : a.tmod ((n : Int) + 1) + ((n : Int) + 1) = ((rnd a n : Nat) : Int) := by
  rw [rnd_cast]
  have h1 : a = a.tmod ((n : Int) + 1) + ((n : Int) + 1) * a.tdiv ((n : Int) + 1) := (Int.tmod_add_mul_tdiv a _).symm
  have h2 : -((n : Int) + 1) < a.tmod ((n : Int) + 1) := by
    have := Int.lt_tmod_of_pos a (show 0 < (n : Int) + 1 by omega)
    omega
  have h3 : a % ((n : Int) + 1) = (a.tmod ((n : Int) + 1) + ((n : Int) + 1)) % ((n : Int) + 1) := by
    conv => lhs; rw [h1]
    rw [Int.add_mul_emod_self_left, Int.add_emod_right]
  rw [h3, Int.emod_eq_of_lt (by omega) (by omega)]
theorem rnd_bd (a : Int) (n : Nat) : -((n : Int) + 1) < a.tmod ((n : Int) + 1) ∧ a.tmod ((n : Int) + 1) < (n : Int) + 1 :=
  ⟨by have := Int.lt_tmod_of_pos a (show 0 < (n : Int) + 1 by omega); omega, Int.tmod_lt_of_pos a (show 0 < (n : Int) + 1 by omega)⟩
theorem rnd_in {k n : Nat} (h : k ≤ n) : rnd (k : Int) n = k := by
  unfold rnd
  rw [Int.emod_eq_of_lt (by omega) (by omega)]
  rfl
/-- the ends of a part -/
def lowEnd (p : Int × Int) (n : Nat) : Nat := min (rnd p.1 n) (rnd p.2 n)
def highEnd (p : Int × Int) (n : Nat) : Nat := max (rnd p.1 n) (rnd p.2 n)
theorem ends_le (p : Int × Int) (n : Nat) : lowEnd p n ≤ highEnd p n ∧ highEnd p n ≤ n := by
  have h1 := rnd_le p.1 n
  have h2 := rnd_le p.2 n
  unfold lowEnd highEnd
  omega
/-- one part reversed -/
def revPart (i j : Nat) (xs : List Int) : List Int := xs.take i ++ ((xs.drop i).take (j - i)).reverse ++ xs.drop j
theorem revPart_len (i j : Nat) (xs : List Int) (hij : i ≤ j) (hj : j ≤ xs.length) : (revPart i j xs).length = xs.length := by
  simp [revPart]
  omega
def revOne (xs : List Int) (p : Int × Int) : List Int := revPart (lowEnd p xs.length) (highEnd p xs.length) xs
theorem revOne_len (xs : List Int) (p : Int × Int) : (revOne xs p).length = xs.length := revPart_len _ _ _ (ends_le p _).1 (ends_le p _).2
/-- one part after the other -/
def revAll (ps : List (Int × Int)) (xs : List Int) : List Int := ps.foldl revOne xs
theorem revAll_len (ps : List (Int × Int)) (xs : List Int) : (revAll ps xs).length = xs.length := by
  induction ps generalizing xs with
  | nil => rfl
  | cons p ps ih => exact (ih (revOne xs p)).trans (revOne_len xs p)
theorem revAll_snoc (ps : List (Int × Int)) (k : Nat) (p : Int × Int) (xs : List Int) (h : ps[k]? = some p) : revAll (ps.take (k + 1)) xs = revOne (revAll (ps.take k) xs) p := by
  obtain ⟨h1, rfl⟩ := List.getElem?_eq_some_iff.1 h
  rw [revAll, revAll, List.take_succ_eq_append_getElem h1, List.foldl_append]
  rfl
/-- a part reversed twice is as it was -/
theorem revPart_twice (i j : Nat) (xs : List Int) (hij : i ≤ j) (hj : j ≤ xs.length) : revPart i j (revPart i j xs) = xs := by
  have h1 : (xs.take i).length = i := by rw [List.length_take]; omega
  have h2 : (((xs.drop i).take (j - i)).reverse).length = j - i := by simp; omega
  have e1 : (revPart i j xs).take i = xs.take i := by rw [revPart, List.append_assoc, List.take_left' h1]
  have e2 : (revPart i j xs).drop i = ((xs.drop i).take (j - i)).reverse ++ xs.drop j := by rw [revPart, List.append_assoc, List.drop_left' h1]
  have e3 : (revPart i j xs).drop j = xs.drop j := by
    rw [revPart, List.drop_left' (by rw [List.length_append, h1, h2]; omega)]
  rw [revPart, e1, e2, e3, List.take_left' h2, List.reverse_reverse]
  have e4 : xs.drop j = (xs.drop i).drop (j - i) := by rw [List.drop_drop, show i + (j - i) = j by omega]
  rw [e4, List.append_assoc, List.take_append_drop, List.take_append_drop]
theorem revOne_twice (xs : List Int) (p : Int × Int) : revOne (revOne xs p) p = xs := by
  have h := ends_le p xs.length
  unfold revOne
  have hl : (revPart (lowEnd p xs.length) (highEnd p xs.length) xs).length = xs.length := revPart_len _ _ _ h.1 h.2
  rw [hl]
  exact revPart_twice _ _ _ h.1 h.2
theorem revAll_back (ps : List (Int × Int)) (xs : List Int) : revAll ps.reverse (revAll ps xs) = xs := by
  induction ps generalizing xs with
  | nil => rfl
  | cons p ps ih =>
    have h1 : revAll (p :: ps) xs = revAll ps (revOne xs p) := rfl
    rw [h1, List.reverse_cons, revAll, List.foldl_append]
    have h2 : List.foldl revOne (revAll ps (revOne xs p)) ps.reverse = revOne xs p := ih (revOne xs p)
    rw [h2]
    exact revOne_twice xs p
theorem revPart_perm (i j : Nat) (xs : List Int) (hij : i ≤ j) (hj : j ≤ xs.length) : (revPart i j xs).Perm xs := by
  have e4 : xs = xs.take i ++ (xs.drop i).take (j - i) ++ xs.drop j := by
    have e5 : xs.drop j = (xs.drop i).drop (j - i) := by rw [List.drop_drop, show i + (j - i) = j by omega]
    rw [e5, List.append_assoc, List.take_append_drop, List.take_append_drop]
  conv => rhs; rw [e4]
  unfold revPart
  exact (List.Perm.append_left _ (List.reverse_perm _)).append_right _
theorem revAll_perm (ps : List (Int × Int)) (xs : List Int) : (revAll ps xs).Perm xs := by
  induction ps generalizing xs with
  | nil => exact List.Perm.refl _
  | cons p ps ih => exact (ih (revOne xs p)).trans (revPart_perm _ _ _ (ends_le p _).1 (ends_le p _).2)
end Go.Proofs.Ytbcjcceejddocaa
