/-
  Contracts of the small functions over lists of numbers of the package laws.
-/
import Derived.Test.YtnbgopagjahkpaaBase
import Derived.Test.YtnbgopagjahkpaaRows
import Derived.BigQuiet
import Derived.Deep.QuietTactic
namespace Go.Proofs.Ytnbgopagjahkpaa
open Go.RowKit
set_option linter.unusedVariables false

theorem intInfo : (Try.prog.info? 3).map (fun i => (i.zero, i.size, i.bytes)) = some (some (.int .i64 0), 1, 8) := by kernel_rfl

/-- the list with its first k numbers written over by those of another -/
theorem made_zero (n : Nat) : (madeCells (Value.int .i64 0).cells (n * 1)).toList = iv (List.replicate n 0) := by
  rw [Nat.mul_one]
  simp [Value.cells, toList_madeCells_one, iv]

theorem copied_step (xs : List Int) (k n : Nat) (x : Int) (hn : xs.length = n) (hk : k < n) (hx : xs[k]? = some x) :
    (iv (xs.take k ++ List.replicate (n - k) 0)).set k (.int .i64 x) = iv (xs.take (k + 1) ++ List.replicate (n - (k + 1)) 0) := by
  have h1 : List.replicate (n - k) (0 : Int) = 0 :: List.replicate (n - (k + 1)) 0 := by
    rw [show n - k = (n - (k + 1)) + 1 by omega, List.replicate_succ]
  have hl : (xs.take k).length = k := by rw [List.length_take]; omega
  rw [h1, iv, iv, List.map_append, List.map_append]
  rw [List.set_append_right _ _ (by simp; omega)]
  simp only [List.length_map, hl, Nat.sub_self, List.map_cons, List.set_cons_zero]
  rw [List.take_succ_eq_append_getElem (by omega), List.map_append, List.append_assoc]
  rw [List.getElem?_eq_getElem (show k < xs.length by omega)] at hx
  simp [Option.some.inj hx]

theorem take_more {xs ys : List Int} {k : Nat} {x y : Int} (h : xs.take k = ys.take k) (hx : xs[k]? = some x) (hy : ys[k]? = some y) (e : x = y) : xs.take (k + 1) = ys.take (k + 1) := by
  obtain ⟨h1, rfl⟩ := List.getElem?_eq_some_iff.1 hx
  obtain ⟨h2, rfl⟩ := List.getElem?_eq_some_iff.1 hy
  rw [List.take_succ_eq_append_getElem h1, List.take_succ_eq_append_getElem h2, h, e]
theorem differ_at {xs ys : List Int} {k : Nat} {x y : Int} (hx : xs[k]? = some x) (hy : ys[k]? = some y) (e : ¬ x = y) : ¬ xs = ys := by
  rintro rfl
  rw [hx] at hy
  exact e (Option.some.inj hy)
theorem take_all {xs ys : List Int} {k n : Nat} (h : xs.take k = ys.take k) (hx : xs.length = n) (hy : ys.length = n) (hk : n ≤ k) : xs = ys := by
  rw [List.take_of_length_le (by omega), List.take_of_length_le (by omega)] at h
  exact h

set_option maxHeartbeats 400000 in
theorem sameInts_any (A B : Option Addr) (n m c d : Nat) (xs ys : List Int) (w : World) (hs : Sees w A n 1 (iv xs)) (ht : Sees w B m 1 (iv ys)) (hn : n ≤ 70368744177664) (hm : m ≤ 70368744177664) :
    Calls Try.prog 9 #[.slice A n c, .slice B m d] w fun e w' => e = .returned (.bool (decide (xs = ys))) ∧ ∃ q, w' = w.drewN q := by
  have HX := hide hs.ilen
  have HY := hide ht.ilen
  by_cases hnm : n = m
  · subst hnm
    have h0 : ((n : Int) != (n : Int)) = false := by simp
    go_enter Try.func9, Try.ntmps9
    go_wp2
    go_loopw [13] (fun i wr => ∃ k q : Nat, k ≤ n ∧ i = .int .i64 k ∧ wr = w.drewN q ∧ Hid (xs.take k = ys.take k)) (fun i _ => n - (intOf i).toNat)
    case atStart => exact ⟨0, 0, Nat.zero_le _, rfl, rfl, by simp [Hid]⟩
    case round =>
      obtain ⟨k, q, hk, rfl, rfl, HT⟩ := hrel
      by_cases hlt : k < n
      · obtain ⟨ad, x, rfl, hbl, HXk, hcx⟩ := hs.int hlt
        obtain ⟨bd, y, rfl, hbm, HYk, hcy⟩ := ht.int hlt
        by_cases hxy : x = y
        · have e1 : (x != y) = false := by simp [hxy]
          go_wp2_with fail
          go_quiet (fail)
          go_wp2_with fail
          go_roundw
          case rel => exact ⟨k + 1, _, by omega, by go_num, rfl, take_more HT.out HXk.out HYk.out hxy⟩
          case measure => simp [intOf]; omega
        · have e1 : (x != y) = true := by simp [hxy]
          go_wp2_with fail
          go_quiet (fail)
          go_wp2_with fail
          go_ret
          refine ⟨?_, _, World.drewN_drewN _ _ _⟩
          rw [decide_eq_false (differ_at HXk.out HYk.out hxy)]
          rfl
      · go_wp2_with fail
        go_ret
        refine ⟨?_, _, rfl⟩
        rw [decide_eq_true (take_all HT.out HX.out HY.out (by omega))]
        rfl
  · have h0 : ((n : Int) != (m : Int)) = true := by simp; omega
    go_enter Try.func9, Try.ntmps9
    go_wp2
    go_ret
    refine ⟨?_, 0, rfl⟩
    rw [decide_eq_false (fun h => hnm (by rw [← HX.out, ← HY.out, h]))]
    rfl

theorem sameInts_b (A B : Option Addr) (n m c d : Nat) (xs ys : List Int) (w : World) (hs : Sees w A n 1 (iv xs)) (ht : Sees w B m 1 (iv ys)) (hn : n ≤ 70368744177664) (hm : m ≤ 70368744177664) :
    Calls Try.prog 9 #[.slice A n c, .slice B m d] w fun e w' => e = .returned (.bool (decide (xs = ys))) ∧ Below w.heap.size w w' :=
  (sameInts_any A B n m c d xs ys w hs ht hn hm).mono fun _ _ ⟨he, q, hq⟩ => ⟨he, hq ▸ below_drewN (Below.refl _ _) q⟩

/-- k, k + 1, .., n numbers -/
def upto (k : Int) (n : Nat) : List Int := (List.range n).map fun (j : Nat) => k + (j : Int)
theorem upto_len (k : Int) (n : Nat) : (upto k n).length = n := by simp [upto]
theorem upto_get (k : Int) {n j : Nat} (h : j < n) : (upto k n)[j]? = some (k + (j : Int)) := by simp [upto, h]
theorem mark_step (xs : List Int) (k : Int) (j n : Nat) (hn : xs.length = n) (hj : j < n) :
    (iv (upto k j ++ xs.drop j)).set j (.int .i64 (k + (j : Int))) = iv (upto k (j + 1) ++ xs.drop (j + 1)) := by
  rw [iv_append, iv_append, List.set_append_right _ _ (by rw [iv_len, upto_len]; exact Nat.le_refl _), iv_len, upto_len, Nat.sub_self]
  have h1 : iv (xs.drop j) = .int .i64 (xs[j]'(by omega)) :: iv (xs.drop (j + 1)) := by
    rw [List.drop_eq_getElem_cons (by omega)]
    rfl
  have h2 : iv (upto k (j + 1)) = iv (upto k j) ++ [.int .i64 (k + (j : Int))] := by
    simp [iv, upto, List.range_succ]
  rw [h1, h2, List.set_cons_zero, List.append_assoc]
  rfl

/-- how often -/
def times (v : Int) (xs : List Int) : Nat := xs.countP fun x => x == v
theorem times_le (v : Int) (xs : List Int) : times v xs ≤ xs.length := List.countP_le_length
theorem times_more {v x : Int} {xs : List Int} {k : Nat} (h : xs[k]? = some x) : times v (xs.take (k + 1)) = times v (xs.take k) + if x = v then 1 else 0 := by
  obtain ⟨h1, rfl⟩ := List.getElem?_eq_some_iff.1 h
  rw [List.take_succ_eq_append_getElem h1, times, List.countP_append, ← times]
  congr 1
  simp [List.countP_cons]

end Go.Proofs.Ytnbgopagjahkpaa
