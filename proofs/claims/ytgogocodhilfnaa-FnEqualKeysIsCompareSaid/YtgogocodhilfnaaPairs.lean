/-
  Contracts of the functions of the package laws over lists of items and parts.
-/
import Derived.Test.YtgogocodhilfnaaPairBase
import Derived.Test.YtgogocodhilfnaaInts
import Derived.StillTailTactics
namespace Go.Proofs.Ytgogocodhilfnaa
open Go.RowKit
set_option linter.unusedVariables false

theorem infoItem : (Try.prog.info? 45).map (fun i => (i.zero, i.size, i.bytes)) = some (some (.agg #[.int .i64 0, .int .i64 0]), 2, 16) := by kernel_rfl

set_option maxHeartbeats 400000 in
theorem toItem_any (x y : Int) (w : World) :
    Calls Try.prog 39 #[.agg #[.int .i64 x, .int .i64 y]] w fun e w' => e = .returned (.agg #[.int .i64 x, .int .i64 y]) ∧ Below w.heap.size w w' := by
  go_enter Try.func39, Try.ntmps39
  go_wp2
  exact bodyPost_ret (v := .agg #[.int .i64 x, .int .i64 y]) (by simp [results, Try.results39, go_sem]) rfl ⟨rfl, (((Below.refl _ _).alloc (Nat.le_refl _) _).alloc (by simp) _).alloc (by simp; omega) _⟩

set_option maxHeartbeats 400000 in
theorem toItemS_any (A : Option Addr) (n c : Nat) (ps : List (Int × Int)) (w : World) (hs : Sees w A n 2 (pv ps)) (hn : n ≤ 8796093022208) :
    Calls Try.prog 25 #[.slice A n c] w fun e w' =>
      ∃ A' c', e = .returned (.slice A' n c') ∧ Row w' w.heap.size w'.heap.size 45 2 A' n c' (pv ps) ∧ Below w.heap.size w w' := by
  obtain ⟨i0, hi0, hz0, hz1, hz2⟩ := info_parts infoItem
  have HX := hide hs.plen
  have r1 : i0.bytes * n ≤ 281474976710656 := by rw [hz2]; omega
  have r2 : n ≤ maxLen := by unfold maxLen; omega
  go_enter Try.func25, Try.ntmps25
  go_wp2_with (at_make; refine wpList_make_full _ rfl _ _ _ rfl w.heap.size 45 i0 _ 2 Try.underlying32 hi0 hz0 hz1 .i64 .i64 _ _ n rfl rfl rfl rfl r1 r2 (Nat.le_refl _) ?_; intro w1 hown1 hg1)
  go_loopw [4] (fun i wr => ∃ k : Nat, k ≤ n ∧ i = .int .i64 k ∧ Blk wr w.heap.size 45 (pv (ps.take k ++ List.replicate (n - k) (0, 0))) ∧ Below w.heap.size w wr) (fun i _ => n - (intOf i).toNat)
  case atStart =>
    have hb : Below w.heap.size w w1 := (Below.refl _ _).grown hg1 (Nat.le_refl _) (by simp)
    refine ⟨0, Nat.zero_le _, rfl, ?_, hb⟩
    rw [made_pairs _ n rfl] at hown1
    simpa using Blk.of_full hown1
  case round =>
    obtain ⟨k, hk, rfl, hblk, hb⟩ := hrel
    by_cases hlt : k < n
    · obtain ⟨b, off, x, y, rfl, hbl, HX2, hcx, hcy⟩ := (hs.below hb).pair hlt
      go_wp2_with fail
      refine (toItem_any x y _).mono ?_
      rintro e w2 ⟨rfl, b2⟩
      have hblk2 := hblk.below b2 hblk.lt
      have hl : (pv (ps.take k ++ List.replicate (n - k) (0, 0))).length = n * 2 := by rw [pv_len, List.length_append, List.length_take, List.length_replicate, HX.out]; congr 1; omega
      obtain ⟨u1, o1⟩ := hblk2.some_cell (i := k * 2) (by rw [hl]; omega)
      obtain ⟨u2, o2⟩ := hblk2.some_cell (i := k * 2 + 1) (by rw [hl]; omega)
      have f1 := hblk2.frozen (k * 2)
      have f2 := hblk2.frozen (k * 2 + 1)
      clear hl
      go_wp2_with fail
      go_roundw
      case rel =>
        have hst := (hblk2.set (k * 2) (.int .i64 x)).set (k * 2 + 1) (.int .i64 y)
        rw [pv_set, pcopied_step ps k n x y HX.out hlt HX2.out] at hst
        exact ⟨k + 1, by omega, by go_num, hst, ((hb.trans (b2.mono hb.size)).setCell (p := ⟨w.heap.size, k * 2, none⟩) (Nat.le_refl _) _).setCell (p := ⟨w.heap.size, k * 2 + 1, none⟩) (Nat.le_refl _) _⟩
      case measure => simp [intOf]; omega
    · obtain rfl : k = n := by omega
      go_wp2_with fail
      go_ret
      have e : ps.take k ++ List.replicate (k - k) (0, 0) = ps := by rw [Nat.sub_self, List.replicate_zero, List.append_nil, List.take_of_length_le (by rw [HX.out]; exact Nat.le_refl _)]
      rw [e] at hblk
      refine ⟨_, _, rfl, ?_, hb⟩
      refine Row.of_blk (post := []) (by simpa using hblk) ?_ ?_ (Nat.le_refl _) (by unfold maxLen; omega) (Nat.le_refl _) hblk.lt (Nat.le_refl _)
      · rw [List.append_nil, pv_len, HX.out]
      · rw [pv_len, HX.out]

set_option maxHeartbeats 400000 in
theorem szItemS_big (A : Option Addr) (n c : Nat) (l : Int) (w : World) (hn : n ≤ 70368744177664) (h0 : 0 ≤ l) (h1 : l ≤ 1048576) (h : l < (n : Int)) :
    Calls Try.prog 23 #[.slice A n c, .int .i64 l] w fun e w' => e = .returned (.int .i64 (-1)) ∧ w = w' := by
  go_enter Try.func23, Try.ntmps23
  go_wp2
  go_ret
  exact ⟨rfl, rfl⟩
set_option maxHeartbeats 400000 in
theorem szItemS_ok (A : Option Addr) (n c : Nat) (l : Int) (w : World) (h1 : l ≤ 1048576) (h : (n : Int) ≤ l) :
    Calls Try.prog 23 #[.slice A n c, .int .i64 l] w fun e w' => e = .returned (.int .i64 (l - (n : Int))) ∧ w = w' := by
  go_enter Try.func23, Try.ntmps23
  go_wp2
  go_ret
  exact ⟨rfl, rfl⟩

set_option maxHeartbeats 400000 in
theorem eqItem_any (x y a b : Int) (w : World) :
    Calls Try.prog 42 #[.agg #[.int .i64 x, .int .i64 y], .agg #[.int .i64 a, .int .i64 b]] w fun e w' => e = .returned (.bool (decide ((x, y) = (a, b)))) ∧ Below w.heap.size w w' := by
  have hbel : ∀ o o' : Obj, Below w.heap.size w ((w.alloc o).alloc o') := fun o o' => ((Below.refl _ _).alloc (Nat.le_refl _) _).alloc (by simp) _
  by_cases h1 : x = a
  · subst h1
    have e1 : (x != x) = false := by simp
    by_cases h2 : y = b
    · subst h2
      have e2 : (y != y) = false := by simp
      go_enter Try.func42, Try.ntmps42
      go_wp2
      go_ret
      exact ⟨rfl, hbel _ _⟩
    · have e2 : (y != b) = true := by simp [h2]
      go_enter Try.func42, Try.ntmps42
      go_wp2
      go_ret
      refine ⟨?_, hbel _ _⟩
      rw [decide_eq_false (by simp [h2])]
      rfl
  · have e1 : (x != a) = true := by simp [h1]
    go_enter Try.func42, Try.ntmps42
    go_wp2
    go_ret
    refine ⟨?_, hbel _ _⟩
    rw [decide_eq_false (by simp [h1])]
    rfl

set_option maxHeartbeats 800000 in
theorem eqItemS_any (A B : Option Addr) (n m c d : Nat) (ps qs : List (Int × Int)) (w : World) (hs : Sees w A n 2 (pv ps)) (ht : Sees w B m 2 (pv qs)) (hn : n ≤ 70368744177664) (hm : m ≤ 70368744177664) :
    Calls Try.prog 27 #[.slice A n c, .slice B m d] w fun e w' => e = .returned (.bool (decide (ps = qs))) ∧ Below w.heap.size w w' := by
  have HX := hide hs.plen
  have HY := hide ht.plen
  by_cases hnm : n = m
  · subst hnm
    have h0 : ((n : Int) != (n : Int)) = false := by simp
    go_enter Try.func27, Try.ntmps27
    go_wp2
    go_loopw [5] (fun i wr => ∃ k : Nat, k ≤ n ∧ i = .int .i64 k ∧ Below w.heap.size w wr ∧ Hid (ps.take k = qs.take k)) (fun i _ => n - (intOf i).toNat)
    case atStart => exact ⟨0, Nat.zero_le _, rfl, Below.refl _ _, by simp [Hid]⟩
    case round =>
      obtain ⟨k, hk, rfl, hb, HT⟩ := hrel
      by_cases hlt : k < n
      · obtain ⟨b1, o1, x, y, rfl, _, HXk, c1, c2⟩ := (hs.below hb).pair hlt
        obtain ⟨b2, o2, a, b, rfl, _, HYk, c3, c4⟩ := (ht.below hb).pair hlt
        go_wp2_with fail
        go_still_tail 8, (by kernel_rfl)
        go_wp2_with fail
        refine (eqItem_any x y a b _).mono ?_
        rintro e w2 ⟨rfl, d2⟩
        have hb2 : Below w.heap.size w w2 := hb.trans ((Below.drew (Below.refl _ _)).trans (d2.mono hb.size))
        clear d2
        by_cases hxy : (x, y) = (a, b)
        · rw [decide_eq_true hxy]
          have H3 := hide hxy
          clear hxy
          go_wp2_with fail
          go_roundw
          case rel => exact ⟨k + 1, by omega, by go_num, hb2, ptake_more HT.out HXk.out HYk.out H3.out⟩
          case measure => simp [intOf]; omega
        · rw [decide_eq_false hxy]
          have H3 := hide hxy
          clear hxy
          go_wp2_with fail
          go_ret
          rw [decide_eq_false (pdiffer_at HXk.out HYk.out H3.out)]
          exact ⟨rfl, hb2⟩
      · go_wp2_with fail
        go_ret
        rw [decide_eq_true (ptake_all HT.out HX.out HY.out (by omega))]
        exact ⟨rfl, hb⟩
  · have h0 : ((n : Int) != (m : Int)) = true := by simp; omega
    go_enter Try.func27, Try.ntmps27
    go_wp2
    go_ret
    rw [decide_eq_false (fun h => hnm (by rw [← HX.out, ← HY.out, h]))]
    exact ⟨rfl, Below.refl _ _⟩

set_option maxHeartbeats 800000 in
theorem toItems_any (A : Option Addr) (n c : Nat) (ps : List (Int × Int)) (w : World) (hs : Sees w A n 2 (pv ps)) (hn : n ≤ 8796093022208) :
    Calls Try.prog 35 #[.slice A n c] w fun e w' =>
      ∃ A' c', e = .returned (.slice A' n c') ∧ Row w' w.heap.size w'.heap.size 45 2 A' n c' (pv ps) ∧ Below w.heap.size w w' := by
  obtain ⟨i0, hi0, hz0, hz1, hz2⟩ := info_parts infoItem
  have HX := hide hs.plen
  go_enter Try.func35, Try.ntmps35
  go_wp2_with fail
  go_loopw [3, 8] (fun v i wr => ∃ (k : Nat) (B : Option Addr) (d : Nat), k ≤ n ∧ i = .int .i64 k ∧ v = .slice B k d ∧ Row wr w.heap.size wr.heap.size 45 2 B k d (pv (ps.take k)) ∧ Below w.heap.size w wr) (fun _ i _ => n - (intOf i).toNat)
  case atStart => exact ⟨0, none, 0, Nat.zero_le _, rfl, rfl, Row.none_ w _ _ _ _ (Nat.le_refl _), Below.refl _ _⟩
  case round =>
    obtain ⟨k, B, d, hk, rfl, rfl, hrow, hb⟩ := hrel
    by_cases hlt : k < n
    · obtain ⟨b, off, x, y, rfl, _, HXk, hcx, hcy⟩ := (hs.below hb).pair hlt
      have hbs := hb.size
      go_wp2_with (at_builtin; refine halt_here ?_)
      have z1 : Sees ((wr.alloc (.cells #[.int .i64 x, .int .i64 y] 54)).alloc (.cells #[.int .i64 x, .int .i64 y] 45)) (some ⟨wr.heap.size + 1, 0, none⟩) 1 2 (pv [(x, y)]) := by
        have := (Blk.new (wr.alloc (.cells #[.int .i64 x, .int .i64 y] 54)) 45 #[.int .i64 x, .int .i64 y]).sees (off := 0) (n := 1) (sz := 2) (pre := []) (xs := pv [(x, y)]) (post := []) rfl rfl
        simpa using this
      refine ⟨wpList_append_sees _ rfl _ _ _ rfl w.heap.size wr.heap.size 45 i0 _ 2 16 Try.underlying32 hi0 hz0 hz1 hz2 rfl (by omega) B k d _ rfl ((hrow.alloc _).alloc _) _ 1 1 (pv [(x, y)]) rfl z1 (pv_one _) (by unfold maxLen; omega) (by omega) (by simp; omega) ?_⟩
      intro A2 c2 w2 hrow2 ho2 _
      have e3 : ps.take k ++ [(x, y)] = ps.take (k + 1) := by
        obtain ⟨h1, h2⟩ := List.getElem?_eq_some_iff.1 HXk.out
        rw [List.take_succ_eq_append_getElem h1, h2]
      rw [← pv_append, e3] at hrow2
      have hb2 : Below w.heap.size w w2 := ((hb.alloc hb.size _).alloc (by simp; omega) _).trans (ho2.below (Nat.le_refl _) (by simp; omega))
      clear ho2 z1 e3
      go_wp2_with fail
      go_roundw
      case rel => exact ⟨k + 1, A2, c2, by omega, by go_num, rfl, hrow2, hb2⟩
      case measure => simp [intOf]; omega
    · obtain rfl : k = n := by omega
      go_wp2_with fail
      go_ret
      rw [List.take_of_length_le (by rw [HX.out]; exact Nat.le_refl _)] at hrow
      exact ⟨B, d, rfl, hrow, hb⟩

end Go.Proofs.Ytgogocodhilfnaa
