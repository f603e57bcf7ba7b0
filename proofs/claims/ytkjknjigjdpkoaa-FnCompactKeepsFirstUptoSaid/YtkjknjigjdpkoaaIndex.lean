/-
  Contracts: slices.Index, slices.Contains, their wrappers and references.
-/
import Derived.Test.YtkjknjigjdpkoaaInts
namespace Go.Proofs.Ytkjknjigjdpkoaa
open Go.RowKit
set_option linter.unusedVariables false

/-- the first index of a number, or -1 -/
def ix (v : Int) (xs : List Int) : Int := if v ∈ xs then (xs.idxOf v : Int) else -1
theorem ix_at {v x : Int} {xs : List Int} {k : Nat} (h : v ∉ xs.take k) (hx : xs[k]? = some x) (e : x = v) : ix v xs = k := by
  obtain ⟨h1, h2⟩ := List.getElem?_eq_some_iff.1 hx
  subst e
  have hm : x ∈ xs := h2 ▸ List.getElem_mem h1
  rw [ix, if_pos hm]
  have : xs = xs.take k ++ x :: xs.drop (k + 1) := by
    rw [← h2, ← List.drop_eq_getElem_cons h1, List.take_append_drop]
  rw [this, List.idxOf_append, if_neg h]
  simp
  omega
theorem ix_not {v : Int} {xs : List Int} {k n : Nat} (h : v ∉ xs.take k) (hx : xs.length = n) (hk : n ≤ k) : ix v xs = -1 := by
  rw [List.take_of_length_le (by omega)] at h
  rw [ix, if_neg h]
theorem not_more {v x : Int} {xs : List Int} {k : Nat} (h : v ∉ xs.take k) (hx : xs[k]? = some x) (e : ¬ x = v) : v ∉ xs.take (k + 1) := by
  obtain ⟨h1, rfl⟩ := List.getElem?_eq_some_iff.1 hx
  rw [List.take_succ_eq_append_getElem h1, List.mem_append]
  simp only [List.mem_singleton, not_or]
  exact ⟨h, fun h2 => e h2.symm⟩

set_option maxHeartbeats 400000 in
theorem Index_any (A : Option Addr) (n c : Nat) (v : Int) (xs : List Int) (w : World) (hs : Sees w A n 1 (iv xs)) (hn : n ≤ 70368744177664) :
    Calls Try.prog 45 #[.slice A n c, .int .i64 v] w fun e w' => e = .returned (.int .i64 (ix v xs)) ∧ w = w' := by
  have HX := hide hs.ilen
  go_enter Try.func45, Try.ntmps45
  go_wp2
  go_loop [8] (fun i => ∃ j : Nat, j ≤ n ∧ i = .int .i64 j ∧ Hid (v ∉ xs.take j)) (fun i => n - (intOf i).toNat)
  case atStart => exact ⟨0, Nat.zero_le _, rfl, by simp [Hid]⟩
  case round =>
    obtain ⟨j, hj, rfl, HT⟩ := hrel
    by_cases hlt : j < n
    · obtain ⟨ad, x, rfl, hb, HXj, hc⟩ := hs.int hlt
      by_cases hx : x = v
      · have e1 : (v == x) = true := by simp [hx]
        have H2 := hide hx
        clear hx
        go_wp2
        go_ret
        rw [ix_at HT.out HXj.out H2.out]
        exact ⟨rfl, rfl⟩
      · have e1 : (v == x) = false := by simp; omega
        go_wp2
        go_round
        case rel => exact ⟨j + 1, by omega, by go_num, not_more HT.out HXj.out hx⟩
        case measure => simp [intOf]; omega
    · obtain rfl : j = n := by omega
      go_wp2
      go_ret
      rw [ix_not HT.out HX.out (Nat.le_refl _)]
      exact ⟨rfl, rfl⟩

set_option maxHeartbeats 400000 in
theorem IndexInt_any (A : Option Addr) (n c : Nat) (v : Int) (xs : List Int) (w : World) (hs : Sees w A n 1 (iv xs)) (hn : n ≤ 70368744177664) :
    Calls Try.prog 24 #[.slice A n c, .int .i64 v] w fun e w' => e = .returned (.int .i64 (ix v xs)) ∧ w = w' := by
  go_enter Try.func24, Try.ntmps24
  go_wp2_with fail
  refine (Index_any A n c v xs _ hs hn).mono ?_
  rintro e w' ⟨rfl, rfl⟩
  go_wp2
  go_ret
  exact ⟨rfl, rfl⟩

end Go.Proofs.Ytkjknjigjdpkoaa
