/-
  Contracts of the small functions over lists of numbers of the package laws.
-/
import Derived.Test.YtjmceapdokkleaaBase
import Derived.Test.YtjmceapdokkleaaRows
import Derived.BigQuiet
import Derived.Deep.QuietTactic
namespace Go.Proofs.Ytjmceapdokkleaa
open Go.RowKit
set_option linter.unusedVariables false

theorem intInfo : (Try.prog.info? 3).map (fun i => (i.zero, i.size, i.bytes)) = some (some (.int .i64 0), 1, 8) := by kernel_rfl

/-- the list with its first k numbers written over by those of another -/
theorem made_zero (n : Nat) : (madeCells (Value.int .i64 0).cells (n * 1)).toList = iv (List.replicate n 0) := by
  rw [Nat.mul_one]
  simp [Value.cells, toList_madeCells_one, iv]

theorem copied_step (xs : List Int) (k n : Nat) (x : Int) (hn : xs.length = n) (hk : k < n) (hx : xs[k]? = some x) :
    (iv (xs.take k ++ List.replicate (n - k) 0)).set k (.int .i64 x) = iv (xs.take (k + 1) ++ List.replicate (n - (k + 1)) 0) := by
  have h1 : List.replicate (n - k) (0 : Int) = 0 :: List.replicate (n - (k + 1)) 0 := by
    rw [show n - k = (n - (k + 1)) + 1 by omega, List.replicate_succ]
  have hl : (xs.take k).length = k := by rw [List.length_take]; omega
  rw [h1, iv, iv, List.map_append, List.map_append]
  rw [List.set_append_right _ _ (by simp; omega)]
  simp only [List.length_map, hl, Nat.sub_self, List.map_cons, List.set_cons_zero]
  rw [List.take_succ_eq_append_getElem (by omega), List.map_append, List.append_assoc]
  rw [List.getElem?_eq_getElem (show k < xs.length by omega)] at hx
  simp [Option.some.inj hx]

set_option maxHeartbeats 400000 in
theorem toIntS_any (A : Option Addr) (n c : Nat) (xs : List Int) (w : World) (hs : Sees w A n 1 (iv xs)) (hn : n ≤ 17592186044416) :
    Calls Try.prog 22 #[.slice A n c] w fun e w' =>
      ∃ A' c', e = .returned (.slice A' n c') ∧ Row w' w.heap.size w'.heap.size 3 1 A' n c' (iv xs) ∧ Below w.heap.size w w' := by
  obtain ⟨i0, hi0, hz0, hz1, hz2⟩ := info_parts intInfo
  have hxl : xs.length = n := by have := hs.len; rw [iv_len] at this; omega
  have HX := hide hxl
  clear hxl
  go_enter Try.func22, Try.ntmps22
  have r1 : i0.bytes * n ≤ 281474976710656 := by rw [hz2]; omega
  have r2 : n ≤ maxLen := by unfold maxLen; omega
  go_wp2_with (at_make; go_loud (refine wpList_make_full _ rfl _ _ _ rfl w.heap.size 3 i0 _ 1 Try.underlying23 hi0 hz0 hz1 .i64 .i64 _ _ n rfl rfl rfl rfl r1 r2 (Nat.le_refl _) ?_); intro w1 hown1 hg1)
  go_loopw [4] (fun i wr => ∃ k : Nat, k ≤ n ∧ i = .int .i64 k ∧ wr.ownsRow w.heap.size 3 1 (.slice (some ⟨w.heap.size, 0, none⟩) n n) n (iv (xs.take k ++ List.replicate (n - k) 0)) ∧ Below w.heap.size w wr ∧ w.heap.size < wr.heap.size) (fun i _ => n - (intOf i).toNat)
  case atStart =>
    have hb : Below w.heap.size w w1 := (Below.refl _ _).grown hg1 (Nat.le_refl _) (by simp)
    refine ⟨0, Nat.zero_le _, rfl, ?_, hb, (hown1.lt w.heap.size rfl).2⟩
    rw [made_zero] at hown1
    simpa using hown1
  case round =>
    obtain ⟨k, hk, rfl, hown, hb, hsz⟩ := hrel
    by_cases hlt : k < n
    · obtain ⟨ad, x, rfl, hbl, HX2, hcx⟩ := (hs.below hb).int hlt
      have hcy := hown.cellAt k (by omega)
      have hfy := hown.frozenAt k
      have hlen := hown.1
      rw [List.getElem?_eq_getElem (by omega)] at hcy
      go_wp2
      go_roundw
      case rel =>
        have hst := hown.stored k (.int .i64 x)
        rw [copied_step xs k n x HX.out hlt HX2.out] at hst
        exact ⟨k + 1, by omega, by go_num, hst.1, hb.setCell (Nat.le_refl _) _, by simpa using hsz⟩
      case measure => simp [intOf]; omega
    · obtain rfl : k = n := by omega
      go_wp2
      go_ret
      refine ⟨_, _, rfl, ⟨?_, ?_, Nat.le_refl _⟩, hb⟩
      · have e : iv (xs.take k ++ List.replicate (k - k) 0) = iv xs := by rw [Nat.sub_self, List.replicate_zero, List.append_nil, List.take_of_length_le (by rw [HX.out]; exact Nat.le_refl _)]
        rw [e] at hown
        exact hown
      · intro ad ha
        obtain rfl := Option.some.inj ha
        exact hsz

theorem take_more {xs ys : List Int} {k : Nat} {x y : Int} (h : xs.take k = ys.take k) (hx : xs[k]? = some x) (hy : ys[k]? = some y) (e : x = y) : xs.take (k + 1) = ys.take (k + 1) := by
  obtain ⟨h1, rfl⟩ := List.getElem?_eq_some_iff.1 hx
  obtain ⟨h2, rfl⟩ := List.getElem?_eq_some_iff.1 hy
  rw [List.take_succ_eq_append_getElem h1, List.take_succ_eq_append_getElem h2, h, e]
theorem differ_at {xs ys : List Int} {k : Nat} {x y : Int} (hx : xs[k]? = some x) (hy : ys[k]? = some y) (e : ¬ x = y) : ¬ xs = ys := by
  rintro rfl
  rw [hx] at hy
  exact e (Option.some.inj hy)
theorem take_all {xs ys : List Int} {k n : Nat} (h : xs.take k = ys.take k) (hx : xs.length = n) (hy : ys.length = n) (hk : n ≤ k) : xs = ys := by
  rw [List.take_of_length_le (by omega), List.take_of_length_le (by omega)] at h
  exact h

set_option maxHeartbeats 400000 in
theorem eqIntS_any (A B : Option Addr) (n m c d : Nat) (xs ys : List Int) (w : World) (hs : Sees w A n 1 (iv xs)) (ht : Sees w B m 1 (iv ys)) (hn : n ≤ 70368744177664) (hm : m ≤ 70368744177664) :
    Calls Try.prog 16 #[.slice A n c, .slice B m d] w fun e w' => e = .returned (.bool (decide (xs = ys))) ∧ ∃ q, w' = w.drewN q := by
  have HX := hide hs.ilen
  have HY := hide ht.ilen
  by_cases hnm : n = m
  · subst hnm
    have h0 : ((n : Int) != (n : Int)) = false := by simp
    go_enter Try.func16, Try.ntmps16
    go_wp2
    go_loopw [5] (fun i wr => ∃ k q : Nat, k ≤ n ∧ i = .int .i64 k ∧ wr = w.drewN q ∧ Hid (xs.take k = ys.take k)) (fun i _ => n - (intOf i).toNat)
    case atStart => exact ⟨0, 0, Nat.zero_le _, rfl, rfl, by simp [Hid]⟩
    case round =>
      obtain ⟨k, q, hk, rfl, rfl, HT⟩ := hrel
      by_cases hlt : k < n
      · obtain ⟨ad, x, rfl, hbl, HXk, hcx⟩ := hs.int hlt
        obtain ⟨bd, y, rfl, hbm, HYk, hcy⟩ := ht.int hlt
        by_cases hxy : x = y
        · have e1 : (x != y) = false := by simp [hxy]
          go_wp2_with fail
          go_quiet (fail)
          go_wp2_with fail
          go_roundw
          case rel => exact ⟨k + 1, _, by omega, by go_num, rfl, take_more HT.out HXk.out HYk.out hxy⟩
          case measure => simp [intOf]; omega
        · have e1 : (x != y) = true := by simp [hxy]
          go_wp2_with fail
          go_quiet (fail)
          go_wp2_with fail
          go_ret
          refine ⟨?_, _, World.drewN_drewN _ _ _⟩
          rw [decide_eq_false (differ_at HXk.out HYk.out hxy)]
          rfl
      · go_wp2_with fail
        go_ret
        refine ⟨?_, _, rfl⟩
        rw [decide_eq_true (take_all HT.out HX.out HY.out (by omega))]
        rfl
  · have h0 : ((n : Int) != (m : Int)) = true := by simp; omega
    go_enter Try.func16, Try.ntmps16
    go_wp2
    go_ret
    refine ⟨?_, 0, rfl⟩
    rw [decide_eq_false (fun h => hnm (by rw [← HX.out, ← HY.out, h]))]
    rfl

set_option maxHeartbeats 400000 in
theorem sameInts_any (A B : Option Addr) (n m c d : Nat) (xs ys : List Int) (w : World) (hs : Sees w A n 1 (iv xs)) (ht : Sees w B m 1 (iv ys)) (hn : n ≤ 70368744177664) (hm : m ≤ 70368744177664) :
    Calls Try.prog 12 #[.slice A n c, .slice B m d] w fun e w' => e = .returned (.bool (decide (xs = ys))) ∧ ∃ q, w' = w.drewN q := by
  have HX := hide hs.ilen
  have HY := hide ht.ilen
  by_cases hnm : n = m
  · subst hnm
    have h0 : ((n : Int) != (n : Int)) = false := by simp
    go_enter Try.func12, Try.ntmps12
    go_wp2
    go_loopw [13] (fun i wr => ∃ k q : Nat, k ≤ n ∧ i = .int .i64 k ∧ wr = w.drewN q ∧ Hid (xs.take k = ys.take k)) (fun i _ => n - (intOf i).toNat)
    case atStart => exact ⟨0, 0, Nat.zero_le _, rfl, rfl, by simp [Hid]⟩
    case round =>
      obtain ⟨k, q, hk, rfl, rfl, HT⟩ := hrel
      by_cases hlt : k < n
      · obtain ⟨ad, x, rfl, hbl, HXk, hcx⟩ := hs.int hlt
        obtain ⟨bd, y, rfl, hbm, HYk, hcy⟩ := ht.int hlt
        by_cases hxy : x = y
        · have e1 : (x != y) = false := by simp [hxy]
          go_wp2_with fail
          go_quiet (fail)
          go_wp2_with fail
          go_roundw
          case rel => exact ⟨k + 1, _, by omega, by go_num, rfl, take_more HT.out HXk.out HYk.out hxy⟩
          case measure => simp [intOf]; omega
        · have e1 : (x != y) = true := by simp [hxy]
          go_wp2_with fail
          go_quiet (fail)
          go_wp2_with fail
          go_ret
          refine ⟨?_, _, World.drewN_drewN _ _ _⟩
          rw [decide_eq_false (differ_at HXk.out HYk.out hxy)]
          rfl
      · go_wp2_with fail
        go_ret
        refine ⟨?_, _, rfl⟩
        rw [decide_eq_true (take_all HT.out HX.out HY.out (by omega))]
        rfl
  · have h0 : ((n : Int) != (m : Int)) = true := by simp; omega
    go_enter Try.func12, Try.ntmps12
    go_wp2
    go_ret
    refine ⟨?_, 0, rfl⟩
    rw [decide_eq_false (fun h => hnm (by rw [← HX.out, ← HY.out, h]))]
    rfl

theorem eqIntS_b (A B : Option Addr) (n m c d : Nat) (xs ys : List Int) (w : World) (hs : Sees w A n 1 (iv xs)) (ht : Sees w B m 1 (iv ys)) (hn : n ≤ 70368744177664) (hm : m ≤ 70368744177664) :
    Calls Try.prog 16 #[.slice A n c, .slice B m d] w fun e w' => e = .returned (.bool (decide (xs = ys))) ∧ Below w.heap.size w w' :=
  (eqIntS_any A B n m c d xs ys w hs ht hn hm).mono fun _ _ ⟨he, q, hq⟩ => ⟨he, hq ▸ below_drewN (Below.refl _ _) q⟩
theorem sameInts_b (A B : Option Addr) (n m c d : Nat) (xs ys : List Int) (w : World) (hs : Sees w A n 1 (iv xs)) (ht : Sees w B m 1 (iv ys)) (hn : n ≤ 70368744177664) (hm : m ≤ 70368744177664) :
    Calls Try.prog 12 #[.slice A n c, .slice B m d] w fun e w' => e = .returned (.bool (decide (xs = ys))) ∧ Below w.heap.size w w' :=
  (sameInts_any A B n m c d xs ys w hs ht hn hm).mono fun _ _ ⟨he, q, hq⟩ => ⟨he, hq ▸ below_drewN (Below.refl _ _) q⟩

/-- k, k + 1, .., n numbers -/
def upto (k : Int) (n : Nat) : List Int := (List.range n).map fun (j : Nat) => k + (j : Int)
theorem upto_len (k : Int) (n : Nat) : (upto k n).length = n := by simp [upto]
theorem upto_get (k : Int) {n j : Nat} (h : j < n) : (upto k n)[j]? = some (k + (j : Int)) := by simp [upto, h]
theorem mark_step (xs : List Int) (k : Int) (j n : Nat) (hn : xs.length = n) (hj : j < n) :
    (iv (upto k j ++ xs.drop j)).set j (.int .i64 (k + (j : Int))) = iv (upto k (j + 1) ++ xs.drop (j + 1)) := by
  rw [iv_append, iv_append, List.set_append_right _ _ (by rw [iv_len, upto_len]; exact Nat.le_refl _), iv_len, upto_len, Nat.sub_self]
  have h1 : iv (xs.drop j) = .int .i64 (xs[j]'(by omega)) :: iv (xs.drop (j + 1)) := by
    rw [List.drop_eq_getElem_cons (by omega)]
    rfl
  have h2 : iv (upto k (j + 1)) = iv (upto k j) ++ [.int .i64 (k + (j : Int))] := by
    simp [iv, upto, List.range_succ]
  rw [h1, h2, List.set_cons_zero, List.append_assoc]
  rfl

set_option maxHeartbeats 400000 in
theorem markIntS_any (A : Option Addr) (lo hi n c : Nat) (k : Int) (xs : List Int) (w : World) (hr : Row w lo hi 3 1 A n c (iv xs)) (hn : n ≤ 70368744177664) (hk0 : 0 ≤ k) (hk1 : k ≤ 70368744177664) :
    Calls Try.prog 19 #[.slice A n c, .int .i64 k] w fun e w' =>
      e = .returned (.int .i64 (k + (n : Int))) ∧ Row w' lo hi 3 1 A n c (iv (upto k n)) ∧ Only lo hi w w' := by
  have hxl : xs.length = n := hr.sees.ilen
  have HX := hide hxl
  clear hxl
  go_enter Try.func19, Try.ntmps19
  go_wp2
  go_loopw [1, 5] (fun m i wr => ∃ j : Nat, j ≤ n ∧ i = .int .i64 j ∧ m = .int .i64 (k + (j : Int)) ∧ Row wr lo hi 3 1 A n c (iv (upto k j ++ xs.drop j)) ∧ Only lo hi w wr) (fun _ i _ => n - (intOf i).toNat)
  case atStart =>
    refine ⟨0, Nat.zero_le _, rfl, by simp, ?_, Only.refl _ _ _⟩
    simpa [upto] using hr
  case round =>
    obtain ⟨j, hj, rfl, rfl, hrow, ho⟩ := hrel
    by_cases hlt : j < n
    · obtain ⟨g, x, rfl, hg1, hg2, -, hc, hf⟩ := hrow.int hlt
      go_wp2
      go_roundw
      case rel =>
        have hst := hrow.stored rfl j (.int .i64 (k + (j : Int)))
        rw [mark_step xs k j n HX.out hlt] at hst
        exact ⟨j + 1, by omega, by go_num, by go_num, hst, ho.setCell hg1 hg2 _⟩
      case measure => simp [intOf]; omega
    · obtain rfl : j = n := by omega
      go_wp2
      go_ret
      refine ⟨rfl, ?_, ho⟩
      rw [List.drop_of_length_le (by rw [HX.out]; exact Nat.le_refl _), List.append_nil] at hrow
      exact hrow

set_option maxHeartbeats 400000 in
theorem heldIntS_any (A : Option Addr) (n c : Nat) (k : Int) (w : World) (hs : Sees w A n 1 (iv (upto k n))) (hn : n ≤ 70368744177664) (hk0 : 0 ≤ k) (hk1 : k ≤ 70368744177664) :
    Calls Try.prog 20 #[.slice A n c, .int .i64 k] w fun e w' => e = .returned (.int .i64 (k + (n : Int))) ∧ w = w' := by
  go_enter Try.func20, Try.ntmps20
  go_wp2
  go_loop [1, 5] (fun m i => ∃ j : Nat, j ≤ n ∧ i = .int .i64 j ∧ m = .int .i64 (k + (j : Int))) (fun _ i => n - (intOf i).toNat)
  case atStart => exact ⟨0, Nat.zero_le _, rfl, by simp⟩
  case round =>
    obtain ⟨j, hj, rfl, rfl⟩ := hrel
    by_cases hlt : j < n
    · obtain ⟨ad, x, rfl, hb, HXj, hc⟩ := hs.int hlt
      obtain rfl : x = k + (j : Int) := by
        have h1 := HXj.out
        rw [upto_get k hlt] at h1
        exact (Option.some.inj h1).symm
      have e1 : (k + (j : Int) != k + (j : Int)) = false := by simp
      clear HXj
      go_wp2
      go_round
      case rel => exact ⟨j + 1, by omega, by go_num, by go_num⟩
      case measure => simp [intOf]; omega
    · obtain rfl : j = n := by omega
      go_wp2
      go_ret
      exact ⟨rfl, rfl⟩

theorem markIntS_nil (k : Int) (w : World) : Calls Try.prog 19 #[.slice none 0 0, .int .i64 k] w fun e w' => e = .returned (.int .i64 k) ∧ w = w' := by
  go_enter Try.func19, Try.ntmps19
  go_wp2
  refine wp_loop_rounds 1 ?_
  rw [rounds_succ]
  go_wp2
  go_ret
  exact ⟨rfl, rfl⟩

theorem heldIntS_nil (k : Int) (w : World) : Calls Try.prog 20 #[.slice none 0 0, .int .i64 k] w fun e w' => e = .returned (.int .i64 k) ∧ w = w' := by
  go_enter Try.func20, Try.ntmps20
  go_wp2
  refine wp_loop_rounds 1 ?_
  rw [rounds_succ]
  go_wp2
  go_ret
  exact ⟨rfl, rfl⟩

/-- how often -/
def times (v : Int) (xs : List Int) : Nat := xs.countP fun x => x == v
theorem times_le (v : Int) (xs : List Int) : times v xs ≤ xs.length := List.countP_le_length
theorem times_more {v x : Int} {xs : List Int} {k : Nat} (h : xs[k]? = some x) : times v (xs.take (k + 1)) = times v (xs.take k) + if x = v then 1 else 0 := by
  obtain ⟨h1, rfl⟩ := List.getElem?_eq_some_iff.1 h
  rw [List.take_succ_eq_append_getElem h1, times, List.countP_append, ← times]
  congr 1
  simp [List.countP_cons]

end Go.Proofs.Ytjmceapdokkleaa
