/-
  Runs of equal elements with one copy of each kept: the plain law. No program in sight.
-/
import Derived.Test.YtkjknjigjdpkoaaBase
namespace Go.Proofs.Ytkjknjigjdpkoaa
set_option linter.unusedVariables false

section
variable {α κ : Type} [DecidableEq κ]
/-- the first k elements, of each run the first one alone -/
def cptTo (key : α → κ) (xs : List α) : Nat → List α
  | 0 => []
  | k + 1 => match xs[k]?, (if k = 0 then none else xs[k - 1]?) with
    | some x, none => cptTo key xs k ++ [x]
    | some x, some y => if key x = key y then cptTo key xs k else cptTo key xs k ++ [x]
    | none, _ => cptTo key xs k
def cpt (key : α → κ) (xs : List α) : List α := cptTo key xs xs.length
variable {key : α → κ} {xs : List α}
theorem cptTo_first {x : α} (hx : xs[0]? = some x) : cptTo key xs 1 = [x] := by simp [cptTo, hx]
theorem cptTo_keep {k : Nat} {x y : α} (hk : 1 ≤ k) (hx : xs[k]? = some x) (hy : xs[k - 1]? = some y) (h : ¬ key x = key y) : cptTo key xs (k + 1) = cptTo key xs k ++ [x] := by
  rw [cptTo, if_neg (by omega), hx, hy]
  simp only [if_neg h]
theorem cptTo_drop {k : Nat} {x y : α} (hk : 1 ≤ k) (hx : xs[k]? = some x) (hy : xs[k - 1]? = some y) (h : key x = key y) : cptTo key xs (k + 1) = cptTo key xs k := by
  rw [cptTo, if_neg (by omega), hx, hy]
  simp only [if_pos h]
theorem cptTo_len (k : Nat) : (cptTo key xs k).length ≤ k := by
  induction k with
  | zero => simp [cptTo]
  | succ k ih =>
    rw [cptTo]
    split
    · rw [List.length_append]; simp; omega
    · split
      · omega
      · rw [List.length_append]; simp; omega
    · omega
theorem take_snoc {k : Nat} {x : α} (hx : xs[k]? = some x) : xs.take (k + 1) = xs.take k ++ [x] := by
  obtain ⟨h1, rfl⟩ := List.getElem?_eq_some_iff.1 hx
  rw [List.take_succ_eq_append_getElem h1]
/-- no run among the first k: all are kept -/
theorem cptTo_all {k : Nat} (hk : k ≤ xs.length) (h : ∀ j x y, 1 ≤ j → j < k → xs[j]? = some x → xs[j - 1]? = some y → ¬ key x = key y) : cptTo key xs k = xs.take k := by
  induction k with
  | zero => simp [cptTo]
  | succ k ih =>
    have hx : xs[k]? = some (xs[k]'(by omega)) := List.getElem?_eq_getElem (by omega)
    rcases Nat.eq_zero_or_pos k with h0 | h0
    · subst h0
      rw [cptTo_first hx, take_snoc hx, List.take_zero, List.nil_append]
    · have hy : xs[k - 1]? = some (xs[k - 1]'(by omega)) := List.getElem?_eq_getElem (by omega)
      rw [cptTo_keep h0 hx hy (h k _ _ h0 (by omega) hx hy), ih (by omega) (fun j x y h1 h2 => h j x y h1 (by omega)), take_snoc hx]
theorem cptTo_pos {k : Nat} (h1 : 1 ≤ k) (hk : k ≤ xs.length) : ∃ zs, cptTo key xs k = (xs[0]'(by omega)) :: zs := by
  induction k with
  | zero => omega
  | succ k ih =>
    rcases Nat.eq_zero_or_pos k with h0 | h0
    · subst h0
      exact ⟨[], cptTo_first (List.getElem?_eq_getElem (by omega))⟩
    · obtain ⟨zs, hz⟩ := ih h0 (by omega)
      have hx : xs[k]? = some (xs[k]'(by omega)) := List.getElem?_eq_getElem (by omega)
      have hy : xs[k - 1]? = some (xs[k - 1]'(by omega)) := List.getElem?_eq_getElem (by omega)
      by_cases h : key (xs[k]'(by omega)) = key (xs[k - 1]'(by omega))
      · exact ⟨zs, by rw [cptTo_drop h0 hx hy h, hz]⟩
      · exact ⟨zs ++ [xs[k]'(by omega)], by rw [cptTo_keep h0 hx hy h, hz]; rfl⟩
/-- the last one kept has the key of the last one met -/
theorem cptTo_last {k : Nat} (h1 : 1 ≤ k) (hk : k ≤ xs.length) : ∃ zs z, cptTo key xs k = zs ++ [z] ∧ key z = key (xs[k - 1]'(by omega)) := by
  induction k with
  | zero => omega
  | succ k ih =>
    have hx : xs[k]? = some (xs[k]'(by omega)) := List.getElem?_eq_getElem (by omega)
    rcases Nat.eq_zero_or_pos k with h0 | h0
    · subst h0
      exact ⟨[], _, cptTo_first hx, rfl⟩
    · obtain ⟨zs, z, hz, hkz⟩ := ih h0 (by omega)
      have hy : xs[k - 1]? = some (xs[k - 1]'(by omega)) := List.getElem?_eq_getElem (by omega)
      by_cases h : key (xs[k]'(by omega)) = key (xs[k - 1]'(by omega))
      · exact ⟨zs, z, by rw [cptTo_drop h0 hx hy h, hz], by rw [hkz, ← h]; rfl⟩
      · exact ⟨cptTo key xs k, _, cptTo_keep h0 hx hy h, rfl⟩
/-- no two next to each other of one key -/
theorem cptTo_norun {k : Nat} (hk : k ≤ xs.length) : ∀ j x y, 1 ≤ j → (cptTo key xs k)[j]? = some x → (cptTo key xs k)[j - 1]? = some y → ¬ key x = key y := by
  induction k with
  | zero => intro j x y _ hx; simp [cptTo] at hx
  | succ k ih =>
    have hx0 : xs[k]? = some (xs[k]'(by omega)) := List.getElem?_eq_getElem (by omega)
    rcases Nat.eq_zero_or_pos k with h0 | h0
    · subst h0
      intro j x y hj hx
      rw [cptTo_first hx0] at hx
      rw [List.getElem?_eq_none (by simp; omega)] at hx
      cases hx
    · have hy0 : xs[k - 1]? = some (xs[k - 1]'(by omega)) := List.getElem?_eq_getElem (by omega)
      by_cases h : key (xs[k]'(by omega)) = key (xs[k - 1]'(by omega))
      · rw [cptTo_drop h0 hx0 hy0 h]
        exact ih (by omega)
      · obtain ⟨zs, z, hz, hkz⟩ := cptTo_last (key := key) (xs := xs) h0 (by omega)
        rw [cptTo_keep h0 hx0 hy0 h]
        intro j x y hj hx hy
        by_cases hjl : j < (cptTo key xs k).length
        · rw [List.getElem?_append_left hjl] at hx
          rw [List.getElem?_append_left (by omega)] at hy
          exact ih (by omega) j x y hj hx hy
        · have hl : j = (cptTo key xs k).length := by
            have := (List.getElem?_eq_some_iff.1 hx).1
            rw [List.length_append] at this
            simp at this
            omega
          rw [hl, List.getElem?_append_right (Nat.le_refl _), Nat.sub_self] at hx
          simp at hx
          rw [hl, List.getElem?_append_left (by rw [hz, List.length_append]; simp)] at hy
          rw [hz, List.length_append, List.length_singleton, Nat.add_sub_cancel, List.getElem?_append_right (Nat.le_refl _), Nat.sub_self] at hy
          simp at hy
          rw [← hx, ← hy, hkz]
          exact h
/-- a run makes it shorter -/
theorem cptTo_less {k j : Nat} {x y : α} (hk : k ≤ xs.length) (h1 : 1 ≤ j) (hj : j < k) (hx : xs[j]? = some x) (hy : xs[j - 1]? = some y) (h : key x = key y) : (cptTo key xs k).length < k := by
  induction k with
  | zero => omega
  | succ k ih =>
    have hx0 : xs[k]? = some (xs[k]'(by omega)) := List.getElem?_eq_getElem (by omega)
    have hy0 : xs[k - 1]? = some (xs[k - 1]'(by omega)) := List.getElem?_eq_getElem (by omega)
    by_cases hjk : j = k
    · subst hjk
      rw [cptTo_drop h1 hx hy h]
      have := cptTo_len (key := key) (xs := xs) j
      omega
    · have h2 := ih (by omega) (by omega)
      by_cases h3 : key (xs[k]'(by omega)) = key (xs[k - 1]'(by omega))
      · rw [cptTo_drop (by omega) hx0 hy0 h3]
        omega
      · rw [cptTo_keep (by omega) hx0 hy0 h3, List.length_append]
        simp
        omega
theorem cpt_len : (cpt key xs).length ≤ xs.length := cptTo_len _
theorem cpt_again : cpt key (cpt key xs) = cpt key xs := by
  have h := cptTo_all (key := key) (xs := cpt key xs) (Nat.le_refl _) (fun j x y h1 _ hx hy => cptTo_norun (key := key) (xs := xs) (Nat.le_refl _) j x y h1 hx hy)
  rw [List.take_length] at h
  exact h
end
/-- of numbers -/
def cptI (xs : List Int) : List Int := cpt id xs
end Go.Proofs.Ytkjknjigjdpkoaa
