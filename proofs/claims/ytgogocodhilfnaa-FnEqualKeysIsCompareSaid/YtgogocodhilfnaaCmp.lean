/-
  Contracts: slices.Equal and slices.Compare of numbers, their wrappers and references.
-/
import Derived.Test.YtgogocodhilfnaaSmall
import Derived.Test.YtgogocodhilfnaaCmpBase
namespace Go.Proofs.Ytgogocodhilfnaa
open Go.RowKit
set_option linter.unusedVariables false
set_option maxHeartbeats 400000 in
theorem specEqualInts_any (A B : Option Addr) (n m c d : Nat) (xs ys : List Int) (w : World) (hs : Sees w A n 1 (iv xs)) (ht : Sees w B m 1 (iv ys)) (hn : n ≤ 70368744177664) (hm : m ≤ 70368744177664) :
    Calls Try.prog 14 #[.slice A n c, .slice B m d] w fun e w' => e = .returned (.bool (decide (xs = ys))) ∧ ∃ q, w' = w.drewN q := by
  have HX := hide hs.ilen
  have HY := hide ht.ilen
  by_cases hnm : n = m
  · subst hnm
    have h0 : ((n : Int) != (n : Int)) = false := by simp
    go_enter Try.func14, Try.ntmps14
    go_wp2
    go_loopw [13] (fun i wr => ∃ k q : Nat, k ≤ n ∧ i = .int .i64 k ∧ wr = w.drewN q ∧ Hid (xs.take k = ys.take k)) (fun i _ => n - (intOf i).toNat)
    case atStart => exact ⟨0, 0, Nat.zero_le _, rfl, rfl, by simp [Hid]⟩
    case round =>
      obtain ⟨k, q, hk, rfl, rfl, HT⟩ := hrel
      by_cases hlt : k < n
      · obtain ⟨ad, x, rfl, hbl, HXk, hcx⟩ := hs.int hlt
        obtain ⟨bd, y, rfl, hbm, HYk, hcy⟩ := ht.int hlt
        by_cases hxy : x = y
        · have e1 : (x != y) = false := by simp [hxy]
          go_wp2_with fail
          go_quiet (fail)
          go_wp2_with fail
          go_roundw
          case rel => exact ⟨k + 1, _, by omega, by go_num, rfl, take_more HT.out HXk.out HYk.out hxy⟩
          case measure => simp [intOf]; omega
        · have e1 : (x != y) = true := by simp [hxy]
          go_wp2_with fail
          go_quiet (fail)
          go_wp2_with fail
          go_ret
          refine ⟨?_, _, World.drewN_drewN _ _ _⟩
          rw [decide_eq_false (differ_at HXk.out HYk.out hxy)]
          rfl
      · go_wp2_with fail
        go_ret
        refine ⟨?_, _, rfl⟩
        rw [decide_eq_true (take_all HT.out HX.out HY.out (by omega))]
        rfl
  · have h0 : ((n : Int) != (m : Int)) = true := by simp; omega
    go_enter Try.func14, Try.ntmps14
    go_wp2
    go_ret
    refine ⟨?_, 0, rfl⟩
    rw [decide_eq_false (fun h => hnm (by rw [← HX.out, ← HY.out, h]))]
    rfl

set_option maxHeartbeats 400000 in
theorem Equal_any (A B : Option Addr) (n m c d : Nat) (xs ys : List Int) (w : World) (hs : Sees w A n 1 (iv xs)) (ht : Sees w B m 1 (iv ys)) (hn : n ≤ 70368744177664) (hm : m ≤ 70368744177664) :
    Calls Try.prog 37 #[.slice A n c, .slice B m d] w fun e w' => e = .returned (.bool (decide (xs = ys))) ∧ ∃ q, w' = w.drewN q := by
  have HX := hide hs.ilen
  have HY := hide ht.ilen
  by_cases hnm : n = m
  · subst hnm
    have h0 : ((n : Int) != (n : Int)) = false := by simp
    go_enter Try.func37, Try.ntmps37
    go_wp2
    go_loopw [13] (fun i wr => ∃ k q : Nat, k ≤ n ∧ i = .int .i64 k ∧ wr = w.drewN q ∧ Hid (xs.take k = ys.take k)) (fun i _ => n - (intOf i).toNat)
    case atStart => exact ⟨0, 0, Nat.zero_le _, rfl, rfl, by simp [Hid]⟩
    case round =>
      obtain ⟨k, q, hk, rfl, rfl, HT⟩ := hrel
      by_cases hlt : k < n
      · obtain ⟨ad, x, rfl, hbl, HXk, hcx⟩ := hs.int hlt
        obtain ⟨bd, y, rfl, hbm, HYk, hcy⟩ := ht.int hlt
        by_cases hxy : x = y
        · have e1 : (x != y) = false := by simp [hxy]
          go_wp2_with fail
          go_quiet (fail)
          go_wp2_with fail
          go_roundw
          case rel => exact ⟨k + 1, _, by omega, by go_num, rfl, take_more HT.out HXk.out HYk.out hxy⟩
          case measure => simp [intOf]; omega
        · have e1 : (x != y) = true := by simp [hxy]
          go_wp2_with fail
          go_quiet (fail)
          go_wp2_with fail
          go_ret
          refine ⟨?_, _, World.drewN_drewN _ _ _⟩
          rw [decide_eq_false (differ_at HXk.out HYk.out hxy)]
          rfl
      · go_wp2_with fail
        go_ret
        refine ⟨?_, _, rfl⟩
        rw [decide_eq_true (take_all HT.out HX.out HY.out (by omega))]
        rfl
  · have h0 : ((n : Int) != (m : Int)) = true := by simp; omega
    go_enter Try.func37, Try.ntmps37
    go_wp2
    go_ret
    refine ⟨?_, 0, rfl⟩
    rw [decide_eq_false (fun h => hnm (by rw [← HX.out, ← HY.out, h]))]
    rfl


set_option maxHeartbeats 400000 in
theorem EqualInts_any (A B : Option Addr) (n m c d : Nat) (xs ys : List Int) (w : World) (hs : Sees w A n 1 (iv xs)) (ht : Sees w B m 1 (iv ys)) (hn : n ≤ 70368744177664) (hm : m ≤ 70368744177664) :
    Calls Try.prog 16 #[.slice A n c, .slice B m d] w fun e w' => e = .returned (.bool (decide (xs = ys))) ∧ ∃ q, w' = w.drewN q := by
  go_enter Try.func16, Try.ntmps16
  go_wp2_with fail
  refine (Equal_any A B n m c d xs ys _ hs ht hn hm).mono ?_
  rintro e w' ⟨rfl, q, rfl⟩
  go_wp2_with fail
  go_ret
  exact ⟨rfl, q, rfl⟩

theorem isNaN_any (x : Int) (w : World) : Calls Try.prog 52 #[.int .i64 x] w fun e w' => e = .returned (.bool false) ∧ w = w' := by
  have e1 : (x != x) = false := by simp
  go_enter Try.func52, Try.ntmps52
  go_wp2
  go_ret
  exact ⟨rfl, rfl⟩
set_option maxHeartbeats 400000 in
theorem cmpCompare_any (x y : Int) (w : World) : Calls Try.prog 50 #[.int .i64 x, .int .i64 y] w fun e w' => e = .returned (.int .i64 (cmpI x y)) ∧ w = w' := by
  rcases Int.lt_trichotomy x y with h | h | h
  · rw [cmpI_lt h]
    go_enter Try.func50, Try.ntmps50
    go_wp2_with fail
    refine (isNaN_any x _).mono ?_
    rintro e w' ⟨rfl, rfl⟩
    go_wp2_with fail
    refine (isNaN_any y _).mono ?_
    rintro e w' ⟨rfl, rfl⟩
    go_wp2_with fail
    go_ret
    exact ⟨rfl, rfl⟩
  · subst h
    rw [cmpI_self]
    have h1 : ¬ x < x := by omega
    go_enter Try.func50, Try.ntmps50
    go_wp2_with fail
    refine (isNaN_any x _).mono ?_
    rintro e w' ⟨rfl, rfl⟩
    go_wp2_with fail
    refine (isNaN_any x _).mono ?_
    rintro e w' ⟨rfl, rfl⟩
    go_wp2_with fail
    go_ret
    exact ⟨rfl, rfl⟩
  · rw [cmpI_gt h]
    have h1 : ¬ x < y := by omega
    go_enter Try.func50, Try.ntmps50
    go_wp2_with fail
    refine (isNaN_any x _).mono ?_
    rintro e w' ⟨rfl, rfl⟩
    go_wp2_with fail
    refine (isNaN_any y _).mono ?_
    rintro e w' ⟨rfl, rfl⟩
    go_wp2_with fail
    go_ret
    exact ⟨rfl, rfl⟩
theorem lengths_any (n m : Nat) (k : Nat) (xs ys : List Int) (w : World) (hx : xs.length = n) (hy : ys.length = m) (hk : n ≤ k ∨ m ≤ k) (hn : k ≤ n) (hm : k ≤ m) (hh : cmpL xs ys = cmpBy cmpI (xs.drop k) (ys.drop k)) :
    Calls Try.prog 43 #[.int .i64 n, .int .i64 m] w fun e w' => e = .returned (.int .i64 (cmpL xs ys)) ∧ w = w' := by
  rcases Nat.lt_trichotomy n m with h | h | h
  · have e0 : cmpL xs ys = -1 := cmpBy_shorter (k := k) (by omega) (by omega) hh
    rw [e0]
    clear e0 hh hx hy
    go_enter Try.func43, Try.ntmps43
    go_wp2
    go_ret
    exact ⟨rfl, rfl⟩
  · have e0 : cmpL xs ys = 0 := cmpBy_equal (k := k) (by omega) (by omega) hh
    rw [e0]
    clear e0 hh hx hy
    subst h
    have h1 : ¬ (n : Int) < (n : Int) := by omega
    go_enter Try.func43, Try.ntmps43
    go_wp2
    go_ret
    exact ⟨rfl, rfl⟩
  · have e0 : cmpL xs ys = 1 := cmpBy_longer (k := k) (by omega) (by omega) hh
    rw [e0]
    clear e0 hh hx hy
    have h1 : ¬ (n : Int) < (m : Int) := by omega
    go_enter Try.func43, Try.ntmps43
    go_wp2
    go_ret
    exact ⟨rfl, rfl⟩

set_option maxHeartbeats 800000 in
theorem Compare_any (A B : Option Addr) (n m c d : Nat) (xs ys : List Int) (w : World) (hs : Sees w A n 1 (iv xs)) (ht : Sees w B m 1 (iv ys)) (hn : n ≤ 70368744177664) (hm : m ≤ 70368744177664) :
    Calls Try.prog 46 #[.slice A n c, .slice B m d] w fun e w' => e = .returned (.int .i64 (cmpL xs ys)) ∧ w = w' := by
  have HX := hide hs.ilen
  have HY := hide ht.ilen
  go_enter Try.func46, Try.ntmps46
  go_wp2_with fail
  go_loop [11] (fun i => ∃ k : Nat, k ≤ n ∧ k ≤ m ∧ i = .int .i64 k ∧ Hid (cmpL xs ys = cmpBy cmpI (xs.drop k) (ys.drop k))) (fun i => n - (intOf i).toNat)
  case atStart => exact ⟨0, Nat.zero_le _, Nat.zero_le _, rfl, by simp [Hid, cmpL]⟩
  case round =>
    obtain ⟨k, hk, hk2, rfl, HH⟩ := hrel
    by_cases hlt : k < n
    · obtain ⟨ad, x, rfl, _, HXk, hcx⟩ := hs.int hlt
      by_cases hlt2 : k < m
      · obtain ⟨bd, y, rfl, _, HYk, hcy⟩ := ht.int hlt2
        go_wp2_with fail
        refine (cmpCompare_any x y _).mono ?_
        rintro e w' ⟨rfl, rfl⟩
        by_cases h0 : cmpI x y = 0
        · rw [h0]
          have H0 := hide h0
          clear h0
          go_wp2_with fail
          go_round
          case rel => exact ⟨k + 1, by omega, by omega, by go_num, cmpBy_step HXk.out HYk.out H0.out HH.out⟩
          case measure => simp [intOf]; omega
        · have e0 := cmpBy_stop HXk.out HYk.out h0 HH.out
          have e1 : (cmpI x y != 0) = true := by simp [h0]
          have E0 := hide e0
          clear e0 h0
          go_wp2_with fail
          go_ret
          refine ⟨?_, rfl⟩
          rw [show cmpL xs ys = cmpI x y from E0.out]
          rfl
      · have E0 := hide (cmpBy_longer (k := k) (by rw [HX.out]; exact hlt) (by rw [HY.out]; omega) HH.out)
        go_wp2_with fail
        go_ret
        refine ⟨?_, rfl⟩
        rw [show cmpL xs ys = 1 from E0.out]
        rfl
    · obtain rfl : k = n := by omega
      by_cases hlt2 : k < m
      · have E0 := hide (cmpBy_shorter (k := k) (by rw [HX.out]; exact Nat.le_refl _) (by rw [HY.out]; exact hlt2) HH.out)
        go_wp2_with fail
        go_ret
        refine ⟨?_, rfl⟩
        rw [show cmpL xs ys = -1 from E0.out]
        rfl
      · have E0 := hide (cmpBy_equal (k := k) (by rw [HX.out]; exact Nat.le_refl _) (by rw [HY.out]; omega) HH.out)
        go_wp2_with fail
        go_ret
        refine ⟨?_, rfl⟩
        rw [show cmpL xs ys = 0 from E0.out]
        rfl

set_option maxHeartbeats 800000 in
theorem specCompareInts_any (A B : Option Addr) (n m c d : Nat) (xs ys : List Int) (w : World) (hs : Sees w A n 1 (iv xs)) (ht : Sees w B m 1 (iv ys)) (hn : n ≤ 70368744177664) (hm : m ≤ 70368744177664) :
    Calls Try.prog 32 #[.slice A n c, .slice B m d] w fun e w' => e = .returned (.int .i64 (cmpL xs ys)) ∧ ∃ q, w' = w.drewN q := by
  have HX := hide hs.ilen
  have HY := hide ht.ilen
  go_enter Try.func32, Try.ntmps32
  go_wp2_with fail
  go_loopw [5] (fun i wr => ∃ k q : Nat, k ≤ n ∧ k ≤ m ∧ i = .int .i64 k ∧ wr = w.drewN q ∧ Hid (cmpL xs ys = cmpBy cmpI (xs.drop k) (ys.drop k))) (fun i _ => n - (intOf i).toNat)
  case atStart => exact ⟨0, 0, Nat.zero_le _, Nat.zero_le _, rfl, rfl, by simp [Hid, cmpL]⟩
  case round =>
    obtain ⟨k, q, hk, hk2, rfl, rfl, HH⟩ := hrel
    by_cases hlt : k < n
    · have d1 : decide ((k : Int) < (n : Int)) = true := by simp; omega
      obtain ⟨ad, x, rfl, _, HXk, hcx⟩ := hs.int hlt
      by_cases hlt2 : k < m
      · have d2 : decide ((k : Int) < (m : Int)) = true := by simp; omega
        obtain ⟨bd, y, rfl, _, HYk, hcy⟩ := ht.int hlt2
        rcases Int.lt_trichotomy x y with h | h | h
        · have E0 := hide (cmpBy_stop HXk.out HYk.out (by rw [cmpI_lt h]; omega) HH.out)
          go_wp2_with fail
          go_quiet (fail)
          go_wp2_with fail
          go_ret
          refine ⟨?_, _, World.drewN_drewN _ _ _⟩
          rw [show cmpL xs ys = cmpI x y from E0.out, cmpI_lt h]
          rfl
        · have H0 := hide (cmpBy_step HXk.out HYk.out (cmpI_zero.2 h) HH.out)
          subst h
          have h1 : ¬ x < x := by omega
          go_wp2_with fail
          go_quiet (fail)
          go_wp2_with fail
          go_quiet (fail)
          go_wp2_with fail
          go_roundw
          case rel => exact ⟨k + 1, _, by omega, by omega, by go_num, rfl, H0.out⟩
          case measure => simp [intOf]; omega
        · have E0 := hide (cmpBy_stop HXk.out HYk.out (by rw [cmpI_gt h]; omega) HH.out)
          have h1 : ¬ x < y := by omega
          go_wp2_with fail
          go_quiet (fail)
          go_wp2_with fail
          go_quiet (fail)
          go_wp2_with fail
          go_ret
          refine ⟨?_, _, by rw [World.drewN_drewN, World.drewN_drewN]⟩
          rw [show cmpL xs ys = cmpI x y from E0.out, cmpI_gt h]
          rfl
      · have d2 : decide ((k : Int) < (m : Int)) = false := by simp; omega
        go_wp2_with fail
        refine (lengths_any n m k xs ys _ HX.out HY.out (by omega) hk hk2 HH.out).mono ?_
        rintro e w' ⟨rfl, rfl⟩
        go_wp2_with fail
        go_ret
        exact ⟨rfl, _, rfl⟩
    · have d1 : decide ((k : Int) < (n : Int)) = false := by simp; omega
      go_wp2_with fail
      refine (lengths_any n m k xs ys _ HX.out HY.out (by omega) hk hk2 HH.out).mono ?_
      rintro e w' ⟨rfl, rfl⟩
      go_wp2_with fail
      go_ret
      exact ⟨rfl, _, rfl⟩

set_option maxHeartbeats 400000 in
theorem CompareInts_any (A B : Option Addr) (n m c d : Nat) (xs ys : List Int) (w : World) (hs : Sees w A n 1 (iv xs)) (ht : Sees w B m 1 (iv ys)) (hn : n ≤ 70368744177664) (hm : m ≤ 70368744177664) :
    Calls Try.prog 30 #[.slice A n c, .slice B m d] w fun e w' => e = .returned (.int .i64 (cmpL xs ys)) ∧ w = w' := by
  go_enter Try.func30, Try.ntmps30
  go_wp2_with fail
  refine (Compare_any A B n m c d xs ys _ hs ht hn hm).mono ?_
  rintro e w' ⟨rfl, rfl⟩
  go_wp2_with fail
  go_ret
  exact ⟨rfl, rfl⟩
end Go.Proofs.Ytgogocodhilfnaa
