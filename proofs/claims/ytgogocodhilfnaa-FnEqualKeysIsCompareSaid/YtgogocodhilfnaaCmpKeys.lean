/-
  Contracts: slices.EqualFunc and slices.CompareFunc by keys, their wrappers and references; the keys of items.
-/
import Derived.Test.YtgogocodhilfnaaPairs
import Derived.Test.YtgogocodhilfnaaCmp
namespace Go.Proofs.Ytgogocodhilfnaa
open Go.RowKit
set_option linter.unusedVariables false

/-- the keys of items -/
def keys (ps : List (Int × Int)) : List Int := ps.map Prod.fst
theorem keys_get {ps : List (Int × Int)} {k : Nat} {x y : Int} (h : ps[k]? = some (x, y)) : (keys ps)[k]? = some x := by simp [keys, h]
theorem keys_len (ps : List (Int × Int)) : (keys ps).length = ps.length := by simp [keys]

set_option maxHeartbeats 800000 in
theorem keysOf_any (A : Option Addr) (n c : Nat) (ps : List (Int × Int)) (w : World) (hs : Sees w A n 2 (pv ps)) (hn : n ≤ 17592186044416) :
    Calls Try.prog 36 #[.slice A n c] w fun e w' =>
      ∃ A' c', e = .returned (.slice A' n c') ∧ Row w' w.heap.size w'.heap.size 3 1 A' n c' (iv (keys ps)) ∧ Below w.heap.size w w' := by
  obtain ⟨i0, hi0, hz0, hz1, hz2⟩ := info_parts intInfo
  have HX := hide hs.plen
  go_enter Try.func36, Try.ntmps36
  go_wp2_with fail
  go_loopw [3, 8] (fun v i wr => ∃ (k : Nat) (B : Option Addr) (d : Nat), k ≤ n ∧ i = .int .i64 k ∧ v = .slice B k d ∧ Row wr w.heap.size wr.heap.size 3 1 B k d (iv ((keys ps).take k)) ∧ Below w.heap.size w wr) (fun _ i _ => n - (intOf i).toNat)
  case atStart => exact ⟨0, none, 0, Nat.zero_le _, rfl, rfl, Row.none_ w _ _ _ _ (Nat.le_refl _), Below.refl _ _⟩
  case round =>
    obtain ⟨k, B, d, hk, rfl, rfl, hrow, hb⟩ := hrel
    by_cases hlt : k < n
    · obtain ⟨b, off, x, y, rfl, _, HXk, hcx, hcy⟩ := (hs.below hb).pair hlt
      have hbs := hb.size
      go_wp2_with (at_builtin; refine halt_here ?_)
      have z1 : Sees ((wr.alloc (.cells #[.int .i64 x, .int .i64 y] 45)).alloc (.cells #[.int .i64 x] 3)) (some ⟨wr.heap.size + 1, 0, none⟩) 1 1 (iv [x]) := by
        have := (Blk.new (wr.alloc (.cells #[.int .i64 x, .int .i64 y] 45)) 3 #[.int .i64 x]).sees (off := 0) (n := 1) (sz := 1) (pre := []) (xs := iv [x]) (post := []) rfl rfl
        simpa using this
      refine ⟨wpList_append_sees _ rfl _ _ _ rfl w.heap.size wr.heap.size 3 i0 _ 1 8 Try.underlying22 hi0 hz0 hz1 hz2 rfl (by omega) B k d _ rfl ((hrow.alloc _).alloc _) _ 1 1 (iv [x]) rfl z1 (iv_one _) (by unfold maxLen; omega) (by omega) (by simp; omega) ?_⟩
      intro A2 c2 w2 hrow2 ho2 _
      have e3 : (keys ps).take k ++ [x] = (keys ps).take (k + 1) := by
        obtain ⟨h1, h2⟩ := List.getElem?_eq_some_iff.1 (keys_get HXk.out)
        rw [List.take_succ_eq_append_getElem h1, h2]
      rw [← iv_append, e3] at hrow2
      have hb2 : Below w.heap.size w w2 := ((hb.alloc hb.size _).alloc (by simp; omega) _).trans (ho2.below (Nat.le_refl _) (by simp; omega))
      clear ho2 z1 e3
      go_wp2_with fail
      go_roundw
      case rel => exact ⟨k + 1, A2, c2, by omega, by go_num, rfl, hrow2, hb2⟩
      case measure => simp [intOf]; omega
    · obtain rfl : k = n := by omega
      go_wp2_with fail
      go_ret
      rw [List.take_of_length_le (by rw [keys_len, HX.out]; exact Nat.le_refl _)] at hrow
      exact ⟨B, d, rfl, hrow, hb⟩

theorem sameKey_any (x y a b : Int) (w : World) :
    Calls Try.prog 41 #[.agg #[.int .i64 x, .int .i64 y], .agg #[.int .i64 a, .int .i64 b]] w fun e w' => e = .returned (.bool (x == a)) ∧ Below w.heap.size w w' := by
  go_enter Try.func41, Try.ntmps41
  go_wp2
  go_ret
  exact ⟨rfl, ((Below.refl _ _).alloc (Nat.le_refl _) _).alloc (by simp) _⟩
set_option maxHeartbeats 400000 in
theorem compare_any (x y : Int) (w : World) : Calls Try.prog 49 #[.int .i64 x, .int .i64 y] w fun e w' => e = .returned (.int .i64 (cmpI x y)) ∧ w = w' := by
  rcases Int.lt_trichotomy x y with h | h | h
  · rw [cmpI_lt h]
    go_enter Try.func49, Try.ntmps49
    go_wp2
    go_ret
    exact ⟨rfl, rfl⟩
  · subst h
    rw [cmpI_self]
    have h1 : ¬ x < x := by omega
    go_enter Try.func49, Try.ntmps49
    go_wp2
    go_ret
    exact ⟨rfl, rfl⟩
  · rw [cmpI_gt h]
    have h1 : ¬ x < y := by omega
    go_enter Try.func49, Try.ntmps49
    go_wp2
    go_ret
    exact ⟨rfl, rfl⟩
theorem byKey_any (x y a b : Int) (w : World) :
    Calls Try.prog 45 #[.agg #[.int .i64 x, .int .i64 y], .agg #[.int .i64 a, .int .i64 b]] w fun e w' => e = .returned (.int .i64 (cmpI x a)) ∧ Below w.heap.size w w' := by
  go_enter Try.func45, Try.ntmps45
  go_wp2_with fail
  refine (compare_any x a _).mono ?_
  rintro e w' ⟨rfl, rfl⟩
  go_wp2_with fail
  go_ret
  exact ⟨rfl, ((Below.refl _ _).alloc (Nat.le_refl _) _).alloc (by simp) _⟩

set_option maxHeartbeats 800000 in
theorem EqualFunc_any (A B : Option Addr) (n m c d : Nat) (ps qs : List (Int × Int)) (w : World) (hs : Sees w A n 2 (pv ps)) (ht : Sees w B m 2 (pv qs)) (hn : n ≤ 70368744177664) (hm : m ≤ 70368744177664) :
    Calls Try.prog 40 #[.slice A n c, .slice B m d, .func (.func 41) #[] #[]] w fun e w' => e = .returned (.bool (decide (keys ps = keys qs))) ∧ Below w.heap.size w w' := by
  have HX : Hid ((keys ps).length = n) := by rw [keys_len]; exact hs.plen
  have HY : Hid ((keys qs).length = m) := by rw [keys_len]; exact ht.plen
  by_cases hnm : n = m
  · subst hnm
    have h0 : ((n : Int) != (n : Int)) = false := by simp
    go_enter Try.func40, Try.ntmps40
    go_wp2_with fail
    go_loopw [17] (fun i wr => ∃ k : Nat, k ≤ n ∧ i = .int .i64 k ∧ Below w.heap.size w wr ∧ Hid ((keys ps).take k = (keys qs).take k)) (fun i _ => n - (intOf i).toNat)
    case atStart => exact ⟨0, Nat.zero_le _, rfl, Below.refl _ _, by simp [Hid]⟩
    case round =>
      obtain ⟨k, hk, rfl, hb, HT⟩ := hrel
      by_cases hlt : k < n
      · obtain ⟨b1, o1, x, y, rfl, l1, HXk, c1, c2⟩ := (hs.below hb).pair hlt
        obtain ⟨b2, o2, a, b, rfl, l2, HYk, c3, c4⟩ := (ht.below hb).pair hlt
        have hbs := hb.size
        have HB := hide hb
        clear hb
        have c5 : (wr.alloc (.cells #[.int .i64 x, .int .i64 y] 45)).cell? ⟨b2, o2 + k * 2, none⟩ = some (.int .i64 a) := (World.cell?_alloc_lt wr _ _ l2).trans c3
        have c6 : (wr.alloc (.cells #[.int .i64 x, .int .i64 y] 45)).cell? ⟨b2, o2 + k * 2 + 1, none⟩ = some (.int .i64 b) := (World.cell?_alloc_lt wr _ _ l2).trans c4
        go_wp2_with fail
        refine (sameKey_any x y a b _).mono ?_
        rintro e w2 ⟨rfl, d2⟩
        have hb2 : Below w.heap.size w w2 := ((HB.out.alloc hbs _).alloc (by simp; omega) _).trans (d2.mono (by simp; omega))
        clear d2
        by_cases hxy : x = a
        · rw [show (x == a) = true by simp [hxy]]
          have H3 := hide hxy
          clear hxy
          go_wp2_with fail
          go_roundw
          case rel => exact ⟨k + 1, by omega, by go_num, hb2, take_more HT.out (keys_get HXk.out) (keys_get HYk.out) H3.out⟩
          case measure => simp [intOf]; omega
        · rw [show (x == a) = false by simp [hxy]]
          have H3 := hide hxy
          clear hxy
          go_wp2_with fail
          go_ret
          rw [decide_eq_false (differ_at (keys_get HXk.out) (keys_get HYk.out) H3.out)]
          exact ⟨rfl, hb2⟩
      · go_wp2_with fail
        go_ret
        rw [decide_eq_true (take_all HT.out HX.out HY.out (by omega))]
        exact ⟨rfl, hb⟩
  · have h0 : ((n : Int) != (m : Int)) = true := by simp; omega
    go_enter Try.func40, Try.ntmps40
    go_wp2_with fail
    go_ret
    rw [decide_eq_false (fun h => hnm (by rw [← HX.out, ← HY.out, h]))]
    exact ⟨rfl, Below.refl _ _⟩

set_option maxHeartbeats 800000 in
theorem CompareFunc_any (A B : Option Addr) (n m c d : Nat) (ps qs : List (Int × Int)) (w : World) (hs : Sees w A n 2 (pv ps)) (ht : Sees w B m 2 (pv qs)) (hn : n ≤ 70368744177664) (hm : m ≤ 70368744177664) :
    Calls Try.prog 44 #[.slice A n c, .slice B m d, .func (.func 45) #[] #[]] w fun e w' => e = .returned (.int .i64 (cmpL (keys ps) (keys qs))) ∧ Below w.heap.size w w' := by
  have HX : Hid ((keys ps).length = n) := by rw [keys_len]; exact hs.plen
  have HY : Hid ((keys qs).length = m) := by rw [keys_len]; exact ht.plen
  go_enter Try.func44, Try.ntmps44
  go_wp2_with fail
  go_loopw [13] (fun i wr => ∃ k : Nat, k ≤ n ∧ k ≤ m ∧ i = .int .i64 k ∧ Below w.heap.size w wr ∧ Hid (cmpL (keys ps) (keys qs) = cmpBy cmpI ((keys ps).drop k) ((keys qs).drop k))) (fun i _ => n - (intOf i).toNat)
  case atStart => exact ⟨0, Nat.zero_le _, Nat.zero_le _, rfl, Below.refl _ _, by simp [Hid, cmpL]⟩
  case round =>
    obtain ⟨k, hk, hk2, rfl, hb, HH⟩ := hrel
    by_cases hlt : k < n
    · obtain ⟨b1, o1, x, y, rfl, l1, HXk, c1, c2⟩ := (hs.below hb).pair hlt
      by_cases hlt2 : k < m
      · obtain ⟨b2, o2, a, b, rfl, l2, HYk, c3, c4⟩ := (ht.below hb).pair hlt2
        have hbs := hb.size
        have HB := hide hb
        clear hb
        have c5 : (wr.alloc (.cells #[.int .i64 x, .int .i64 y] 45)).cell? ⟨b2, o2 + k * 2, none⟩ = some (.int .i64 a) := (World.cell?_alloc_lt wr _ _ l2).trans c3
        have c6 : (wr.alloc (.cells #[.int .i64 x, .int .i64 y] 45)).cell? ⟨b2, o2 + k * 2 + 1, none⟩ = some (.int .i64 b) := (World.cell?_alloc_lt wr _ _ l2).trans c4
        go_wp2_with fail
        refine (byKey_any x y a b _).mono ?_
        rintro e w2 ⟨rfl, d2⟩
        have hb2 : Below w.heap.size w w2 := ((HB.out.alloc hbs _).alloc (by simp; omega) _).trans (d2.mono (by simp; omega))
        clear d2
        by_cases h0 : cmpI x a = 0
        · rw [h0]
          have H0 := hide h0
          clear h0
          go_wp2_with fail
          go_roundw
          case rel => exact ⟨k + 1, by omega, by omega, by go_num, hb2, cmpBy_step (keys_get HXk.out) (keys_get HYk.out) H0.out HH.out⟩
          case measure => simp [intOf]; omega
        · have e1 : (cmpI x a != 0) = true := by simp [h0]
          have E0 := hide (cmpBy_stop (keys_get HXk.out) (keys_get HYk.out) h0 HH.out)
          clear h0
          go_wp2_with fail
          go_ret
          refine ⟨?_, hb2⟩
          rw [show cmpL (keys ps) (keys qs) = cmpI x a from E0.out]
          rfl
      · have E0 := hide (cmpBy_longer (k := k) (by rw [HX.out]; exact hlt) (by rw [HY.out]; omega) HH.out)
        have hbs := hb.size
        have HB := hide hb
        clear hb
        go_wp2_with fail
        go_ret
        refine ⟨?_, HB.out.alloc hbs _⟩
        rw [show cmpL (keys ps) (keys qs) = 1 from E0.out]
        rfl
    · obtain rfl : k = n := by omega
      by_cases hlt2 : k < m
      · have E0 := hide (cmpBy_shorter (k := k) (by rw [HX.out]; exact Nat.le_refl _) (by rw [HY.out]; exact hlt2) HH.out)
        go_wp2_with fail
        go_ret
        refine ⟨?_, hb⟩
        rw [show cmpL (keys ps) (keys qs) = -1 from E0.out]
        rfl
      · have E0 := hide (cmpBy_equal (k := k) (by rw [HX.out]; exact Nat.le_refl _) (by rw [HY.out]; omega) HH.out)
        go_wp2_with fail
        go_ret
        refine ⟨?_, hb⟩
        rw [show cmpL (keys ps) (keys qs) = 0 from E0.out]
        rfl

set_option maxHeartbeats 800000 in
theorem specEqualKeys_any (A B : Option Addr) (n m c d : Nat) (ps qs : List (Int × Int)) (w : World) (hs : Sees w A n 2 (pv ps)) (ht : Sees w B m 2 (pv qs)) (hn : n ≤ 70368744177664) (hm : m ≤ 70368744177664) :
    Calls Try.prog 24 #[.slice A n c, .slice B m d] w fun e w' => e = .returned (.bool (decide (keys ps = keys qs))) ∧ ∃ q, w' = w.drewN q := by
  have HX : Hid ((keys ps).length = n) := by rw [keys_len]; exact hs.plen
  have HY : Hid ((keys qs).length = m) := by rw [keys_len]; exact ht.plen
  by_cases hnm : n = m
  · subst hnm
    have h0 : ((n : Int) != (n : Int)) = false := by simp
    go_enter Try.func24, Try.ntmps24
    go_wp2_with fail
    go_loopw [13] (fun i wr => ∃ k q : Nat, k ≤ n ∧ i = .int .i64 k ∧ wr = w.drewN q ∧ Hid ((keys ps).take k = (keys qs).take k)) (fun i _ => n - (intOf i).toNat)
    case atStart => exact ⟨0, 0, Nat.zero_le _, rfl, rfl, by simp [Hid]⟩
    case round =>
      obtain ⟨k, q, hk, rfl, rfl, HT⟩ := hrel
      by_cases hlt : k < n
      · obtain ⟨b1, o1, x, y, rfl, l1, HXk, c1, c2⟩ := hs.pair hlt
        obtain ⟨b2, o2, a, b, rfl, l2, HYk, c3, c4⟩ := ht.pair hlt
        by_cases hxy : x = a
        · have e1 : (x != a) = false := by simp [hxy]
          have H3 := hide hxy
          clear hxy
          go_wp2_with fail
          go_quiet (fail)
          go_wp2_with fail
          go_roundw
          case rel => exact ⟨k + 1, _, by omega, by go_num, rfl, take_more HT.out (keys_get HXk.out) (keys_get HYk.out) H3.out⟩
          case measure => simp [intOf]; omega
        · have e1 : (x != a) = true := by simp [hxy]
          have H3 := hide hxy
          clear hxy
          go_wp2_with fail
          go_quiet (fail)
          go_wp2_with fail
          go_ret
          refine ⟨?_, _, World.drewN_drewN _ _ _⟩
          rw [decide_eq_false (differ_at (keys_get HXk.out) (keys_get HYk.out) H3.out)]
          rfl
      · go_wp2_with fail
        go_ret
        refine ⟨?_, _, rfl⟩
        rw [decide_eq_true (take_all HT.out HX.out HY.out (by omega))]
        rfl
  · have h0 : ((n : Int) != (m : Int)) = true := by simp; omega
    go_enter Try.func24, Try.ntmps24
    go_wp2_with fail
    go_ret
    refine ⟨?_, 0, rfl⟩
    rw [decide_eq_false (fun h => hnm (by rw [← HX.out, ← HY.out, h]))]
    rfl

set_option maxHeartbeats 1000000 in
theorem specCompareKeys_any (A B : Option Addr) (n m c d : Nat) (ps qs : List (Int × Int)) (w : World) (hs : Sees w A n 2 (pv ps)) (ht : Sees w B m 2 (pv qs)) (hn : n ≤ 70368744177664) (hm : m ≤ 70368744177664) :
    Calls Try.prog 28 #[.slice A n c, .slice B m d] w fun e w' => e = .returned (.int .i64 (cmpL (keys ps) (keys qs))) ∧ ∃ q, w' = w.drewN q := by
  have HX : Hid ((keys ps).length = n) := by rw [keys_len]; exact hs.plen
  have HY : Hid ((keys qs).length = m) := by rw [keys_len]; exact ht.plen
  go_enter Try.func28, Try.ntmps28
  go_wp2_with fail
  go_loopw [5] (fun i wr => ∃ k q : Nat, k ≤ n ∧ k ≤ m ∧ i = .int .i64 k ∧ wr = w.drewN q ∧ Hid (cmpL (keys ps) (keys qs) = cmpBy cmpI ((keys ps).drop k) ((keys qs).drop k))) (fun i _ => n - (intOf i).toNat)
  case atStart => exact ⟨0, 0, Nat.zero_le _, Nat.zero_le _, rfl, rfl, by simp [Hid, cmpL]⟩
  case round =>
    obtain ⟨k, q, hk, hk2, rfl, rfl, HH⟩ := hrel
    by_cases hlt : k < n
    · have d1 : decide ((k : Int) < (n : Int)) = true := by simp; omega
      obtain ⟨b1, o1, x, y, rfl, l1, HXk, c1, c2⟩ := hs.pair hlt
      by_cases hlt2 : k < m
      · have d2 : decide ((k : Int) < (m : Int)) = true := by simp; omega
        obtain ⟨b2, o2, a, b, rfl, l2, HYk, c3, c4⟩ := ht.pair hlt2
        rcases Int.lt_trichotomy x a with h | h | h
        · have E0 := hide (cmpBy_stop (keys_get HXk.out) (keys_get HYk.out) (by rw [cmpI_lt h]; omega) HH.out)
          go_wp2_with fail
          go_quiet (fail)
          go_wp2_with fail
          go_ret
          refine ⟨?_, _, World.drewN_drewN _ _ _⟩
          rw [show cmpL (keys ps) (keys qs) = cmpI x a from E0.out, cmpI_lt h]
          rfl
        · have H0 := hide (cmpBy_step (keys_get HXk.out) (keys_get HYk.out) (cmpI_zero.2 h) HH.out)
          subst h
          have h1 : ¬ x < x := by omega
          go_wp2_with fail
          go_quiet (fail)
          go_wp2_with fail
          go_quiet (fail)
          go_wp2_with fail
          go_roundw
          case rel => exact ⟨k + 1, _, by omega, by omega, by go_num, rfl, H0.out⟩
          case measure => simp [intOf]; omega
        · have E0 := hide (cmpBy_stop (keys_get HXk.out) (keys_get HYk.out) (by rw [cmpI_gt h]; omega) HH.out)
          have h1 : ¬ x < a := by omega
          go_wp2_with fail
          go_quiet (fail)
          go_wp2_with fail
          go_quiet (fail)
          go_wp2_with fail
          go_ret
          refine ⟨?_, _, by rw [World.drewN_drewN, World.drewN_drewN]⟩
          rw [show cmpL (keys ps) (keys qs) = cmpI x a from E0.out, cmpI_gt h]
          rfl
      · have d2 : decide ((k : Int) < (m : Int)) = false := by simp; omega
        go_wp2_with fail
        refine (lengths_any n m k (keys ps) (keys qs) _ HX.out HY.out (by omega) hk hk2 HH.out).mono ?_
        rintro e w' ⟨rfl, rfl⟩
        go_wp2_with fail
        go_ret
        exact ⟨rfl, _, rfl⟩
    · have d1 : decide ((k : Int) < (n : Int)) = false := by simp; omega
      go_wp2_with fail
      refine (lengths_any n m k (keys ps) (keys qs) _ HX.out HY.out (by omega) hk hk2 HH.out).mono ?_
      rintro e w' ⟨rfl, rfl⟩
      go_wp2_with fail
      go_ret
      exact ⟨rfl, _, rfl⟩

set_option maxHeartbeats 400000 in
theorem EqualKeys_any (A B : Option Addr) (n m c d : Nat) (ps qs : List (Int × Int)) (w : World) (hs : Sees w A n 2 (pv ps)) (ht : Sees w B m 2 (pv qs)) (hn : n ≤ 70368744177664) (hm : m ≤ 70368744177664) :
    Calls Try.prog 26 #[.slice A n c, .slice B m d] w fun e w' => e = .returned (.bool (decide (keys ps = keys qs))) ∧ Below w.heap.size w w' := by
  go_enter Try.func26, Try.ntmps26
  go_wp2_with fail
  refine (EqualFunc_any A B n m c d ps qs _ hs ht hn hm).mono ?_
  rintro e w' ⟨rfl, d2⟩
  go_wp2_with fail
  go_ret
  exact ⟨rfl, d2⟩

set_option maxHeartbeats 400000 in
theorem CompareKeys_any (A B : Option Addr) (n m c d : Nat) (ps qs : List (Int × Int)) (w : World) (hs : Sees w A n 2 (pv ps)) (ht : Sees w B m 2 (pv qs)) (hn : n ≤ 70368744177664) (hm : m ≤ 70368744177664) :
    Calls Try.prog 29 #[.slice A n c, .slice B m d] w fun e w' => e = .returned (.int .i64 (cmpL (keys ps) (keys qs))) ∧ Below w.heap.size w w' := by
  go_enter Try.func29, Try.ntmps29
  go_wp2_with fail
  refine (CompareFunc_any A B n m c d ps qs _ hs ht hn hm).mono ?_
  rintro e w' ⟨rfl, d2⟩
  go_wp2_with fail
  go_ret
  exact ⟨rfl, d2⟩
end Go.Proofs.Ytgogocodhilfnaa
