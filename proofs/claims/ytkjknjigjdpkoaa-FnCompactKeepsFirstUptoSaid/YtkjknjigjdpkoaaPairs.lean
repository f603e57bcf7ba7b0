/-
  Contracts of the functions of the package laws over lists of items and parts.
-/
import Derived.Test.YtkjknjigjdpkoaaPairBase
import Derived.Test.YtkjknjigjdpkoaaInts
import Derived.StillTailTactics
namespace Go.Proofs.Ytkjknjigjdpkoaa
open Go.RowKit
set_option linter.unusedVariables false

theorem infoItem : (Try.prog.info? 41).map (fun i => (i.zero, i.size, i.bytes)) = some (some (.agg #[.int .i64 0, .int .i64 0]), 2, 16) := by kernel_rfl

set_option maxHeartbeats 400000 in
theorem toItem_any (x y : Int) (w : World) :
    Calls Try.prog 47 #[.agg #[.int .i64 x, .int .i64 y]] w fun e w' => e = .returned (.agg #[.int .i64 x, .int .i64 y]) ∧ Below w.heap.size w w' := by
  go_enter Try.func47, Try.ntmps47
  go_wp2
  exact bodyPost_ret (v := .agg #[.int .i64 x, .int .i64 y]) (by simp [results, Try.results47, go_sem]) rfl ⟨rfl, (((Below.refl _ _).alloc (Nat.le_refl _) _).alloc (by simp) _).alloc (by simp; omega) _⟩

set_option maxHeartbeats 400000 in
theorem toItemS_any (A : Option Addr) (n c : Nat) (ps : List (Int × Int)) (w : World) (hs : Sees w A n 2 (pv ps)) (hn : n ≤ 8796093022208) :
    Calls Try.prog 32 #[.slice A n c] w fun e w' =>
      ∃ A' c', e = .returned (.slice A' n c') ∧ Row w' w.heap.size w'.heap.size 41 2 A' n c' (pv ps) ∧ Below w.heap.size w w' := by
  obtain ⟨i0, hi0, hz0, hz1, hz2⟩ := info_parts infoItem
  have HX := hide hs.plen
  have r1 : i0.bytes * n ≤ 281474976710656 := by rw [hz2]; omega
  have r2 : n ≤ maxLen := by unfold maxLen; omega
  go_enter Try.func32, Try.ntmps32
  go_wp2_with (at_make; refine wpList_make_full _ rfl _ _ _ rfl w.heap.size 41 i0 _ 2 Try.underlying33 hi0 hz0 hz1 .i64 .i64 _ _ n rfl rfl rfl rfl r1 r2 (Nat.le_refl _) ?_; intro w1 hown1 hg1)
  go_loopw [4] (fun i wr => ∃ k : Nat, k ≤ n ∧ i = .int .i64 k ∧ Blk wr w.heap.size 41 (pv (ps.take k ++ List.replicate (n - k) (0, 0))) ∧ Below w.heap.size w wr) (fun i _ => n - (intOf i).toNat)
  case atStart =>
    have hb : Below w.heap.size w w1 := (Below.refl _ _).grown hg1 (Nat.le_refl _) (by simp)
    refine ⟨0, Nat.zero_le _, rfl, ?_, hb⟩
    rw [made_pairs _ n rfl] at hown1
    simpa using Blk.of_full hown1
  case round =>
    obtain ⟨k, hk, rfl, hblk, hb⟩ := hrel
    by_cases hlt : k < n
    · obtain ⟨b, off, x, y, rfl, hbl, HX2, hcx, hcy⟩ := (hs.below hb).pair hlt
      go_wp2_with fail
      refine (toItem_any x y _).mono ?_
      rintro e w2 ⟨rfl, b2⟩
      have hblk2 := hblk.below b2 hblk.lt
      have hl : (pv (ps.take k ++ List.replicate (n - k) (0, 0))).length = n * 2 := by rw [pv_len, List.length_append, List.length_take, List.length_replicate, HX.out]; congr 1; omega
      obtain ⟨u1, o1⟩ := hblk2.some_cell (i := k * 2) (by rw [hl]; omega)
      obtain ⟨u2, o2⟩ := hblk2.some_cell (i := k * 2 + 1) (by rw [hl]; omega)
      have f1 := hblk2.frozen (k * 2)
      have f2 := hblk2.frozen (k * 2 + 1)
      clear hl
      go_wp2_with fail
      go_roundw
      case rel =>
        have hst := (hblk2.set (k * 2) (.int .i64 x)).set (k * 2 + 1) (.int .i64 y)
        rw [pv_set, pcopied_step ps k n x y HX.out hlt HX2.out] at hst
        exact ⟨k + 1, by omega, by go_num, hst, ((hb.trans (b2.mono hb.size)).setCell (p := ⟨w.heap.size, k * 2, none⟩) (Nat.le_refl _) _).setCell (p := ⟨w.heap.size, k * 2 + 1, none⟩) (Nat.le_refl _) _⟩
      case measure => simp [intOf]; omega
    · obtain rfl : k = n := by omega
      go_wp2_with fail
      go_ret
      have e : ps.take k ++ List.replicate (k - k) (0, 0) = ps := by rw [Nat.sub_self, List.replicate_zero, List.append_nil, List.take_of_length_le (by rw [HX.out]; exact Nat.le_refl _)]
      rw [e] at hblk
      refine ⟨_, _, rfl, ?_, hb⟩
      refine Row.of_blk (post := []) (by simpa using hblk) ?_ ?_ (Nat.le_refl _) (by unfold maxLen; omega) (Nat.le_refl _) hblk.lt (Nat.le_refl _)
      · rw [List.append_nil, pv_len, HX.out]
      · rw [pv_len, HX.out]

set_option maxHeartbeats 400000 in
theorem szItemS_big (A : Option Addr) (n c : Nat) (l : Int) (w : World) (hn : n ≤ 70368744177664) (h0 : 0 ≤ l) (h1 : l ≤ 1048576) (h : l < (n : Int)) :
    Calls Try.prog 30 #[.slice A n c, .int .i64 l] w fun e w' => e = .returned (.int .i64 (-1)) ∧ w = w' := by
  go_enter Try.func30, Try.ntmps30
  go_wp2
  go_ret
  exact ⟨rfl, rfl⟩
set_option maxHeartbeats 400000 in
theorem szItemS_ok (A : Option Addr) (n c : Nat) (l : Int) (w : World) (h1 : l ≤ 1048576) (h : (n : Int) ≤ l) :
    Calls Try.prog 30 #[.slice A n c, .int .i64 l] w fun e w' => e = .returned (.int .i64 (l - (n : Int))) ∧ w = w' := by
  go_enter Try.func30, Try.ntmps30
  go_wp2
  go_ret
  exact ⟨rfl, rfl⟩

set_option maxHeartbeats 400000 in
theorem eqItem_any (x y a b : Int) (w : World) :
    Calls Try.prog 51 #[.agg #[.int .i64 x, .int .i64 y], .agg #[.int .i64 a, .int .i64 b]] w fun e w' => e = .returned (.bool (decide ((x, y) = (a, b)))) ∧ Below w.heap.size w w' := by
  have hbel : ∀ o o' : Obj, Below w.heap.size w ((w.alloc o).alloc o') := fun o o' => ((Below.refl _ _).alloc (Nat.le_refl _) _).alloc (by simp) _
  by_cases h1 : x = a
  · subst h1
    have e1 : (x != x) = false := by simp
    by_cases h2 : y = b
    · subst h2
      have e2 : (y != y) = false := by simp
      go_enter Try.func51, Try.ntmps51
      go_wp2
      go_ret
      exact ⟨rfl, hbel _ _⟩
    · have e2 : (y != b) = true := by simp [h2]
      go_enter Try.func51, Try.ntmps51
      go_wp2
      go_ret
      refine ⟨?_, hbel _ _⟩
      rw [decide_eq_false (by simp [h2])]
      rfl
  · have e1 : (x != a) = true := by simp [h1]
    go_enter Try.func51, Try.ntmps51
    go_wp2
    go_ret
    refine ⟨?_, hbel _ _⟩
    rw [decide_eq_false (by simp [h1])]
    rfl

set_option maxHeartbeats 800000 in
theorem eqItemS_any (A B : Option Addr) (n m c d : Nat) (ps qs : List (Int × Int)) (w : World) (hs : Sees w A n 2 (pv ps)) (ht : Sees w B m 2 (pv qs)) (hn : n ≤ 70368744177664) (hm : m ≤ 70368744177664) :
    Calls Try.prog 34 #[.slice A n c, .slice B m d] w fun e w' => e = .returned (.bool (decide (ps = qs))) ∧ Below w.heap.size w w' := by
  have HX := hide hs.plen
  have HY := hide ht.plen
  by_cases hnm : n = m
  · subst hnm
    have h0 : ((n : Int) != (n : Int)) = false := by simp
    go_enter Try.func34, Try.ntmps34
    go_wp2
    go_loopw [5] (fun i wr => ∃ k : Nat, k ≤ n ∧ i = .int .i64 k ∧ Below w.heap.size w wr ∧ Hid (ps.take k = qs.take k)) (fun i _ => n - (intOf i).toNat)
    case atStart => exact ⟨0, Nat.zero_le _, rfl, Below.refl _ _, by simp [Hid]⟩
    case round =>
      obtain ⟨k, hk, rfl, hb, HT⟩ := hrel
      by_cases hlt : k < n
      · obtain ⟨b1, o1, x, y, rfl, _, HXk, c1, c2⟩ := (hs.below hb).pair hlt
        obtain ⟨b2, o2, a, b, rfl, _, HYk, c3, c4⟩ := (ht.below hb).pair hlt
        go_wp2_with fail
        go_still_tail 8, (by kernel_rfl)
        go_wp2_with fail
        refine (eqItem_any x y a b _).mono ?_
        rintro e w2 ⟨rfl, d2⟩
        have hb2 : Below w.heap.size w w2 := hb.trans ((Below.drew (Below.refl _ _)).trans (d2.mono hb.size))
        clear d2
        by_cases hxy : (x, y) = (a, b)
        · rw [decide_eq_true hxy]
          have H3 := hide hxy
          clear hxy
          go_wp2_with fail
          go_roundw
          case rel => exact ⟨k + 1, by omega, by go_num, hb2, ptake_more HT.out HXk.out HYk.out H3.out⟩
          case measure => simp [intOf]; omega
        · rw [decide_eq_false hxy]
          have H3 := hide hxy
          clear hxy
          go_wp2_with fail
          go_ret
          rw [decide_eq_false (pdiffer_at HXk.out HYk.out H3.out)]
          exact ⟨rfl, hb2⟩
      · go_wp2_with fail
        go_ret
        rw [decide_eq_true (ptake_all HT.out HX.out HY.out (by omega))]
        exact ⟨rfl, hb⟩
  · have h0 : ((n : Int) != (m : Int)) = true := by simp; omega
    go_enter Try.func34, Try.ntmps34
    go_wp2
    go_ret
    rw [decide_eq_false (fun h => hnm (by rw [← HX.out, ← HY.out, h]))]
    exact ⟨rfl, Below.refl _ _⟩

set_option maxHeartbeats 800000 in
theorem markItemS_any (A : Option Addr) (lo hi n c : Nat) (k : Int) (ps : List (Int × Int)) (w : World) (hr : Row w lo hi 41 2 A n c (pv ps)) (hn : n ≤ 35184372088832) (hk0 : 0 ≤ k) (hk1 : k ≤ 70368744177664) :
    Calls Try.prog 35 #[.slice A n c, .int .i64 k] w fun e w' =>
      e = .returned (.int .i64 (k + 2 * (n : Int))) ∧ Row w' lo hi 41 2 A n c (pv (uptoP k n)) ∧ Only lo hi w w' := by
  have HX := hide hr.sees.plen
  go_enter Try.func35, Try.ntmps35
  go_wp2_with fail
  go_loopw [1, 5] (fun m i wr => ∃ j : Nat, j ≤ n ∧ i = .int .i64 j ∧ m = .int .i64 (k + 2 * (j : Int)) ∧ Row wr lo hi 41 2 A n c (pv (uptoP k j ++ ps.drop j)) ∧ Only lo hi w wr) (fun _ i _ => n - (intOf i).toNat)
  case atStart =>
    refine ⟨0, Nat.zero_le _, rfl, by simp, ?_, Only.refl _ _ _⟩
    simpa [uptoP] using hr
  case round =>
    obtain ⟨j, hj, rfl, rfl, hrow, ho⟩ := hrel
    by_cases hlt : j < n
    · obtain ⟨g, x, y, rfl, hg1, hg2, -, c1, c2, f1, f2⟩ := hrow.pair hlt
      go_wp2_with fail
      go_roundw
      case rel =>
        have hst := (hrow.stored rfl (j * 2) (.int .i64 (k + 2 * (j : Int)))).stored rfl (j * 2 + 1) (.int .i64 (k + 2 * (j : Int) + 1))
        rw [pv_set, pmark_step ps k j n HX.out hlt] at hst
        exact ⟨j + 1, by omega, by go_num, by rw [show k + 2 * ((j + 1 : Nat) : Int) = k + 2 * (j : Int) + 1 + 1 by omega], hst, (ho.setCell (p := ⟨g, j * 2, none⟩) hg1 hg2 _).setCell (p := ⟨g, j * 2 + 1, none⟩) hg1 hg2 _⟩
      case measure => simp [intOf]; omega
    · obtain rfl : j = n := by omega
      go_wp2_with fail
      go_ret
      refine ⟨rfl, ?_, ho⟩
      rw [List.drop_of_length_le (by rw [HX.out]; exact Nat.le_refl _), List.append_nil] at hrow
      exact hrow

set_option maxHeartbeats 800000 in
theorem heldItemS_any (A : Option Addr) (n c : Nat) (k : Int) (w : World) (hs : Sees w A n 2 (pv (uptoP k n))) (hn : n ≤ 35184372088832) (hk0 : 0 ≤ k) (hk1 : k ≤ 70368744177664) :
    Calls Try.prog 36 #[.slice A n c, .int .i64 k] w fun e w' => e = .returned (.int .i64 (k + 2 * (n : Int))) ∧ w = w' := by
  go_enter Try.func36, Try.ntmps36
  go_wp2_with fail
  go_loop [1, 5] (fun m i => ∃ j : Nat, j ≤ n ∧ i = .int .i64 j ∧ m = .int .i64 (k + 2 * (j : Int))) (fun _ i => n - (intOf i).toNat)
  case atStart => exact ⟨0, Nat.zero_le _, rfl, by simp⟩
  case round =>
    obtain ⟨j, hj, rfl, rfl⟩ := hrel
    by_cases hlt : j < n
    · obtain ⟨b, off, x, y, rfl, hb, HXj, c1, c2⟩ := hs.pair hlt
      obtain ⟨rfl, rfl⟩ : x = k + 2 * (j : Int) ∧ y = k + 2 * (j : Int) + 1 := by
        have h1 := HXj.out
        rw [uptoP_get k hlt] at h1
        injection h1 with h1
        injection h1 with h1 h2
        exact ⟨h1.symm, h2.symm⟩
      have e1 : (k + 2 * (j : Int) != k + 2 * (j : Int)) = false := by simp
      have e2 : (k + 2 * (j : Int) + 1 != k + 2 * (j : Int) + 1) = false := by simp
      clear HXj
      go_wp2_with fail
      go_round
      case rel => exact ⟨j + 1, by omega, by go_num, by rw [show k + 2 * ((j + 1 : Nat) : Int) = k + 2 * (j : Int) + 1 + 1 by omega]⟩
      case measure => simp [intOf]; omega
    · obtain rfl : j = n := by omega
      go_wp2_with fail
      go_ret
      exact ⟨rfl, rfl⟩

end Go.Proofs.Ytkjknjigjdpkoaa
