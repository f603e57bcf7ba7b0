/-
  Contracts: slices.Compact of numbers, its wrappers and references.
-/
import Derived.Test.YtkjknjigjdpkoaaCptBase
import Derived.Test.YtkjknjigjdpkoaaDelete
namespace Go.Proofs.Ytkjknjigjdpkoaa
open Go.RowKit
set_option linter.unusedVariables false

def atI (x : Int) : Value := .int .i64 x
theorem atI_in {xs : List Int} {post : List Value} {k : Nat} {x : Int} (h : xs[k]? = some x) : (iv xs ++ post)[k]? = some (.int .i64 x) := by
  have hk := (List.getElem?_eq_some_iff.1 h).1
  rw [List.getElem?_append_left (by rw [iv_len]; exact hk), iv_get, h]
  rfl
theorem setI_in {xs : List Int} {post : List Value} {k : Nat} {x : Int} (h : k < xs.length) : (iv xs ++ post).set k (.int .i64 x) = iv (xs.set k x) ++ post := by
  rw [List.set_append_left _ _ (by rw [iv_len]; exact h)]
  simp [iv, List.map_set]

set_option maxHeartbeats 2000000 in
set_option maxRecDepth 100000 in
theorem Compact_row (A : Option Addr) (lo hi n c : Nat) (xs : List Int) (w : World) (hr : Row w lo hi 3 1 A n c (iv xs)) (hn : n ≤ 70368744177664) :
    Calls Try.prog 46 #[.slice A n c] w fun e w' =>
      e = .returned (.slice A (cpt id xs).length c) ∧ Row w' lo hi 3 1 A n c (iv (cpt id xs ++ List.replicate (n - (cpt id xs).length) 0)) ∧ Only lo hi w w' := by
  obtain ⟨i0, hi0, hz0, hz1, hz2⟩ := info_parts intInfo
  have hxl := hr.sees.ilen
  have hcap := hr.cap
  have hnc := hcap.1
  have hcm := hcap.2
  unfold maxLen at hcm
  clear hcap
  by_cases h2 : n < 2
  · have e0 : cpt id xs = xs := by
      show cptTo id xs xs.length = xs
      rw [cptTo_all (Nat.le_refl _) (fun j x y h1 hj => by omega), List.take_length]
    rw [e0, hxl, Nat.sub_self, List.replicate_zero, List.append_nil]
    clear hxl e0
    go_enter Try.func46, Try.ntmps46
    go_wp2_with fail
    go_ret
    exact ⟨rfl, hr, Only.refl _ _ _⟩
  · obtain ⟨g, post, hA, hlo, hhi, hb, hl⟩ : ∃ g post, A = some ⟨g, 0, none⟩ ∧ lo ≤ g ∧ g < hi ∧ Blk w g 3 (iv xs ++ post) ∧ (iv xs ++ post).length = c * 1 := by
      obtain ⟨_, h, _, _⟩ := hr.form (by omega)
      exact hr.block h
    subst hA
    have HX := hide hxl
    have HL := hide hl
    have HR := hide hr
    clear hxl hl hr
    go_enter Try.func46, Try.ntmps46
    go_wp2_with fail
    go_loopw [3] (fun i wr => ∃ k q : Nat, 1 ≤ k ∧ k ≤ n ∧ i = .int .i64 k ∧ wr = w.drewN q ∧ Hid (∀ j x y, 1 ≤ j → j < k → xs[j]? = some x → xs[j - 1]? = some y → ¬ id x = id y)) (fun i _ => n - (intOf i).toNat)
    case atStart => exact ⟨1, 0, Nat.le_refl _, by omega, rfl, rfl, fun j x y h1 h2 => by omega⟩
    case round =>
      obtain ⟨k, q, hk1, hk, rfl, rfl, HN⟩ := hrel
      by_cases hlt : k < n
      · obtain ⟨x, HXk⟩ : ∃ x, Hid (xs[k]? = some x) := ⟨_, List.getElem?_eq_getElem (by rw [HX.out]; exact hlt)⟩
        obtain ⟨y, HYk⟩ : ∃ y, Hid (xs[k - 1]? = some y) := ⟨_, List.getElem?_eq_getElem (by rw [HX.out]; omega)⟩
        have c1 : w.cell? ⟨g, k, none⟩ = some (.int .i64 x) := hb.cell (atI_in HXk.out)
        have c2 : w.cell? ⟨g, k - 1, none⟩ = some (.int .i64 y) := hb.cell (atI_in HYk.out)
        by_cases hxy : id x = id y
        · have e1 : (x == y) = true := by simpa using hxy
          have HK := hide (cptTo_all (key := id) (k := k) (by rw [HX.out]; exact hk) HN.out)
          have HK2 := hide (cptTo_drop hk1 HXk.out HYk.out hxy)
          clear hxy HN
          go_wp2_with fail
          go_quiet (fail)
          have q1 : ∀ W, (Instr.slice 22 (.slice (some ⟨g, 0, none⟩) n c) (some (.int .i64 (k : Int))) none none).run Try.prog W = .ok (.slice (some ⟨g, k, none⟩) (n - k) (c - k)) W := fun W => by
            rw [run_slice_lo (P := Try.prog) W 22 3 i0 1 Try.underlying22 hi0 hz1 (some ⟨g, 0, none⟩) n c .i64 k (by omega), cutA_some _ _ _ _ _ (by omega), Nat.zero_add, Nat.mul_one]
          rw [World.drewN_drewN]
          generalize hW : w.drewN (q + nq) = W
          have hbW : Blk W g 3 (iv xs ++ post) := hW ▸ hb.drewN _
          have hoW : Only lo hi w W := hW ▸ (Only.refl _ _ w).drewN _
          clear hW c1 c2 e1
          go_wp2_with fail
          clear q1
          go_loopw [3, 5] (fun i j wr => ∃ (t m : Nat) (zs : List Int), 1 ≤ m ∧ m ≤ n - k ∧ t + 1 ≤ k + m ∧ i = .int .i64 t ∧ j = .int .i64 m ∧ Hid ((cptTo id xs (k + m)).length = t ∧ zs.length = n ∧ zs.take t = cptTo id xs (k + m) ∧ zs.drop (k + m - 1) = xs.drop (k + m - 1)) ∧ Blk wr g 3 (iv zs ++ post) ∧ Only lo hi w wr) (fun _ j _ => n - k - (intOf j).toNat)
          case atStart =>
            refine ⟨k, 1, xs, Nat.le_refl _, by omega, by omega, rfl, rfl, ?_, hbW, hoW⟩
            have hlk : (xs.take k).length = k := by rw [List.length_take, HX.out]; omega
            refine ⟨?_, HX.out, ?_, rfl⟩
            · rw [HK2.out, HK.out, hlk]
            · rw [HK2.out, HK.out]
          case round =>
            obtain ⟨t, m, zs, hm1, hm, htm, rfl, rfl, HZ, hbz, hoz⟩ := hrel
            by_cases hlm : m < n - k
            · obtain ⟨u, HU⟩ : ∃ u, Hid (xs[k + m]? = some u) := ⟨_, List.getElem?_eq_getElem (by rw [HX.out]; omega)⟩
              obtain ⟨v, HV⟩ : ∃ v, Hid (xs[k + m - 1]? = some v) := ⟨_, List.getElem?_eq_getElem (by rw [HX.out]; omega)⟩
              have z1 : zs[k + m]? = some u := by
                have h1 := HZ.out.2.2.2
                have h2 : (zs.drop (k + m - 1))[1]? = (xs.drop (k + m - 1))[1]? := by rw [h1]
                rw [List.getElem?_drop, List.getElem?_drop, show k + m - 1 + 1 = k + m by omega, HU.out] at h2
                exact h2
              have z2 : zs[k + m - 1]? = some v := by
                have h1 := HZ.out.2.2.2
                have h2 : (zs.drop (k + m - 1))[0]? = (xs.drop (k + m - 1))[0]? := by rw [h1]
                rw [List.getElem?_drop, List.getElem?_drop, Nat.add_zero, HV.out] at h2
                exact h2
              have c1 : wr.cell? ⟨g, k + m, none⟩ = some (.int .i64 u) := hbz.cell (atI_in z1)
              have c2 : wr.cell? ⟨g, k + (m - 1), none⟩ = some (.int .i64 v) := by rw [show k + (m - 1) = k + m - 1 by omega]; exact hbz.cell (atI_in z2)
              have Z1 := hide z1
              clear z1 z2
              by_cases huv : id u = id v
              · have e1 : (u != v) = false := by simpa using huv
                have HK3 := hide (cptTo_drop (show 1 ≤ k + m by omega) HU.out HV.out huv)
                clear huv
                go_wp2_with fail
                go_quiet (fail)
                go_wp2_with fail
                go_roundw
                case rel =>
                  refine ⟨t, m + 1, zs, by omega, by omega, by omega, rfl, by go_num, ?_, hbz.drewN _, hoz.drewN _⟩
                  obtain ⟨a1, a2, a3, a4⟩ := HZ.out
                  refine ⟨?_, a2, ?_, ?_⟩
                  · rw [← Nat.add_assoc, HK3.out, a1]
                  · rw [← Nat.add_assoc, HK3.out, a3]
                  · rw [show k + (m + 1) - 1 = k + m - 1 + 1 by omega, ← List.drop_drop, ← List.drop_drop, a4]
                case measure => simp [intOf]; omega
              · have e1 : (u != v) = true := by simpa using huv
                have HK3 := hide (cptTo_keep (show 1 ≤ k + m by omega) HU.out HV.out huv)
                have HN3 := hide huv
                clear huv
                obtain ⟨o1, c3⟩ := hbz.some_cell (i := t) (by rw [List.length_append, iv_len, HZ.out.2.1]; omega)
                have f3 := hbz.frozen t
                go_wp2_with fail
                go_quiet (fail)
                go_wp2_with fail
                go_roundw
                case rel =>
                  obtain ⟨a1, a2, a3, a4⟩ := HZ.out
                  have hst := hbz.set t (.int .i64 u)
                  rw [setI_in (by rw [a2]; omega)] at hst
                  refine ⟨t + 1, m + 1, zs.set t u, by omega, by omega, by omega, by go_num, by go_num, ?_, hst.drewN _, (hoz.setCell (p := ⟨g, t, none⟩) hlo hhi _).drewN _⟩
                  refine ⟨?_, by rw [List.length_set, a2], ?_, ?_⟩
                  · rw [← Nat.add_assoc, HK3.out, List.length_append, a1]
                    rfl
                  · rw [← Nat.add_assoc, HK3.out, ← a3]
                    have hs : (zs.set t u)[t]? = some u := by rw [List.getElem?_set, if_pos rfl, if_pos (by rw [a2]; omega)]
                    rw [take_snoc hs, List.take_set_of_le (Nat.le_refl _)]
                  · rw [List.drop_set_of_lt (by omega), show k + (m + 1) - 1 = k + m - 1 + 1 by omega, ← List.drop_drop, ← List.drop_drop, a4]
                case measure => simp [intOf]; omega
            · obtain rfl : m = n - k := by omega
              have hkn : k + (n - k) = n := by omega
              rw [hkn] at HZ htm
              have q3 : ∀ W, (Instr.slice 22 (.slice (some ⟨g, 0, none⟩) n c) (some (.int .i64 (t : Int))) none none).run Try.prog W = .ok (.slice (some ⟨g, t, none⟩) (n - t) (c - t)) W := fun W => by
                rw [run_slice_lo (P := Try.prog) W 22 3 i0 1 Try.underlying22 hi0 hz1 (some ⟨g, 0, none⟩) n c .i64 t (by omega), cutA_some _ _ _ _ _ (by omega), Nat.zero_add, Nat.mul_one]
              have q4 := fun W => run_slice_hi (P := Try.prog) W 22 3 i0 Try.underlying22 hi0 (some ⟨g, 0, none⟩) n c .i64 t (by omega)
              clear hkn
              go_wp2_with (with_reducible refine halt_clear ?_)
              refine ⟨wpList_clear_blk wr rfl _ _ rfl 3 i0 _ 1 Try.underlying22 hi0 hz0 rfl (by intro u hu; simp [Value.cells] at hu; subst hu; rfl) (by omega) g t (n - t) (c - t) _ hbz ?_ (by omega) rfl ?_⟩
              · rw [List.length_append, iv_len, HZ.out.2.1]; omega
              intro w5 hb5 ho5 hs5
              clear q3
              go_wp2_with fail
              go_ret
              obtain ⟨a1, a2, a3, a4⟩ := HZ.out
              have ec : cpt id xs = cptTo id xs n := by rw [cpt, HX.out]
              have ho : Only lo hi w w5 := hoz.trans ⟨ho5.os, ho5.tape, ho5.output, ho5.size, fun k hk h => ho5.block k hk (by omega)⟩
              rw [zeroInts, List.take_append_of_le_length (by rw [iv_len, a2]; omega), ← iv_take, a3, show t + (n - t) * 1 = n by omega, List.drop_left' (by rw [iv_len, a2]), ← iv_append] at hb5
              rw [ec, a1]
              refine ⟨rfl, Row.of_blk hb5 ?_ ?_ hnc (by unfold maxLen; omega) hlo hhi (Nat.le_trans HR.out.2.2 ho.size), ho⟩
              · have := HL.out
                rw [List.length_append, iv_len, HX.out] at this
                rw [List.length_append, iv_len, List.length_append, a1, List.length_replicate]
                omega
              · rw [iv_len, List.length_append, a1, List.length_replicate]
                omega
        · have e1 : (x == y) = false := by simpa using hxy
          have HK := hide hxy
          clear hxy
          go_wp2_with fail
          go_quiet (fail)
          go_wp2_with fail
          go_roundw
          case rel =>
            refine ⟨k + 1, _, by omega, by omega, by go_num, rfl, fun j x' y' h1 h2 hx' hy' => ?_⟩
            by_cases hj : j = k
            · subst hj
              rw [HXk.out] at hx'
              rw [HYk.out] at hy'
              rw [← Option.some.inj hx', ← Option.some.inj hy']
              exact HK.out
            · exact HN.out j x' y' h1 (by omega) hx' hy'
          case measure => simp [intOf]; omega
      · obtain rfl : k = n := by omega
        have e0 : cpt id xs = xs := by
          show cptTo id xs xs.length = xs
          rw [cptTo_all (Nat.le_refl _) (fun j x y h1 hj => HN.out j x y h1 (by rw [← HX.out]; exact hj)), List.take_length]
        have E0 := hide e0
        clear e0
        go_wp2_with fail
        go_ret
        rw [E0.out, HX.out, Nat.sub_self, List.replicate_zero, List.append_nil]
        exact ⟨rfl, (HR.out).drewN _, (Only.refl _ _ _).drewN _⟩

set_option maxHeartbeats 400000 in
theorem CompactInts_any (A : Option Addr) (n c : Nat) (xs : List Int) (w : World) (hs : Sees w A n 1 (iv xs)) (hn : n ≤ 17592186044416) :
    Calls Try.prog 26 #[.slice A n c] w fun e w' =>
      ∃ A' c', e = .returned (.slice A' (cptI xs).length c') ∧ Row w' w.heap.size w'.heap.size 3 1 A' (cptI xs).length c' (iv (cptI xs)) ∧ Below w.heap.size w w' := by
  have hx := hs.ilen
  have HX := hide hx
  clear hx
  go_enter Try.func26, Try.ntmps26
  go_wp2_with fail
  refine (numbers_any A n c xs _ hs hn).mono ?_
  rintro e w1 ⟨A1, c1, rfl, r1, b1⟩
  go_wp2_with fail
  refine (Compact_row A1 _ _ n c1 xs _ r1 (by omega)).mono ?_
  rintro e w2 ⟨rfl, r2, o2⟩
  clear r1
  have hl : (cpt id xs).length ≤ n := by rw [← HX.out]; exact cpt_len
  rw [iv_append] at r2
  have r3 := (r2.short (m := (cpt id xs).length) (by rw [iv_len, Nat.mul_one]) hl).more (Nat.le_refl _) o2.size (Nat.le_refl _)
  have b2 : Below w.heap.size w w2 := b1.trans (o2.below (Nat.le_refl _) b1.size)
  clear o2 r2 hl
  change Row w2 w.heap.size w2.heap.size 3 1 A1 (cptI xs).length c1 (iv (cptI xs)) at r3
  go_wp2_with fail
  go_ret
  exact ⟨A1, c1, rfl, r3, b2⟩
set_option maxHeartbeats 400000 in
theorem CompactRest_any (A : Option Addr) (n c : Nat) (xs : List Int) (w : World) (hs : Sees w A n 1 (iv xs)) (hn : n ≤ 17592186044416) :
    Calls Try.prog 29 #[.slice A n c] w fun e w' =>
      ∃ A' c', e = .returned (.slice A' n c') ∧ Row w' w.heap.size w'.heap.size 3 1 A' n c' (iv (cptI xs ++ List.replicate (n - (cptI xs).length) 0)) ∧ Below w.heap.size w w' := by
  go_enter Try.func29, Try.ntmps29
  go_wp2_with fail
  refine (numbers_any A n c xs _ hs hn).mono ?_
  rintro e w1 ⟨A1, c1, rfl, r1, b1⟩
  go_wp2_with fail
  refine (Compact_row A1 _ _ n c1 xs _ r1 (by omega)).mono ?_
  rintro e w2 ⟨rfl, r2, o2⟩
  clear r1
  have r3 := r2.more (Nat.le_refl _) o2.size (Nat.le_refl _)
  have b2 : Below w.heap.size w w2 := b1.trans (o2.below (Nat.le_refl _) b1.size)
  clear o2 r2
  go_wp2_with fail
  go_ret
  exact ⟨A1, c1, rfl, r3, b2⟩

set_option maxHeartbeats 800000 in
theorem specCompactInts_any (A : Option Addr) (n c : Nat) (xs : List Int) (w : World) (hs : Sees w A n 1 (iv xs)) (hn : n ≤ 17592186044416) :
    Calls Try.prog 27 #[.slice A n c] w fun e w' =>
      ∃ A' c', e = .returned (.slice A' (cptI xs).length c') ∧ Row w' w.heap.size w'.heap.size 3 1 A' (cptI xs).length c' (iv (cptI xs)) ∧ Below w.heap.size w w' := by
  obtain ⟨i0, hi0, hz0, hz1, hz2⟩ := info_parts intInfo
  have HX := hide hs.ilen
  go_enter Try.func27, Try.ntmps27
  go_wp2_with fail
  go_loopw [3, 8] (fun v i wr => ∃ (k t : Nat) (B : Option Addr) (d : Nat), k ≤ n ∧ t ≤ k ∧ i = .int .i64 k ∧ v = .slice B t d ∧ Hid ((cptTo id xs k).length = t) ∧ Row wr w.heap.size wr.heap.size 3 1 B t d (iv (cptTo id xs k)) ∧ Below w.heap.size w wr) (fun _ i _ => n - (intOf i).toNat)
  case atStart => exact ⟨0, 0, none, 0, Nat.zero_le _, Nat.le_refl _, rfl, rfl, rfl, Row.none_ w _ _ _ _ (Nat.le_refl _), Below.refl _ _⟩
  case round =>
    obtain ⟨k, t, B, d, hk, htk, rfl, rfl, HT, hrow, hb⟩ := hrel
    by_cases hlt : k < n
    · obtain ⟨ad, x, rfl, _, HXk, hcx⟩ := (hs.below hb).int hlt
      have hbs := hb.size
      rcases Nat.eq_zero_or_pos k with h0 | h0
      · have e1 : ((k : Int) == 0) = true := by simp [h0]
        have HC : Hid (cptTo id xs (k + 1) = cptTo id xs k ++ [x]) := by
          have h1 := HXk.out
          subst h0
          exact cptTo_first h1
        clear h0
        go_wp2_with (at_builtin; refine halt_here ?_)
        have z1 : Sees (wr.alloc (.cells #[.int .i64 x] 3)) (some ⟨wr.heap.size, 0, none⟩) 1 1 (iv [x]) := (Blk.new wr 3 #[.int .i64 x]).sees (pre := []) (post := []) rfl rfl
        refine ⟨wpList_append_sees _ rfl _ _ _ rfl w.heap.size wr.heap.size 3 i0 _ 1 8 Try.underlying22 hi0 hz0 hz1 hz2 rfl (by omega) B t d _ rfl (hrow.alloc _) _ 1 1 (iv [x]) rfl z1 (iv_one _) (by unfold maxLen; omega) (by omega) (by simp; omega) ?_⟩
        intro A2 c2 w2 hrow2 ho2 _
        rw [← iv_append, ← HC.out] at hrow2
        have hb2 : Below w.heap.size w w2 := (hb.alloc hb.size _).trans (ho2.below (Nat.le_refl _) (by simp; omega))
        clear ho2 z1
        go_wp2_with fail
        go_roundw
        case rel => exact ⟨k + 1, t + 1, A2, c2, by omega, by omega, by go_num, rfl, by show _ = _; rw [HC.out, List.length_append, HT.out]; rfl, hrow2, hb2⟩
        case measure => simp [intOf]; omega
      · obtain ⟨ad2, y, hA2, _, HYk, hcy⟩ := (hs.below hb).int (show k - 1 < n by omega)
        obtain rfl := Option.some.inj hA2
        have e1 : ((k : Int) == 0) = false := by simp; omega
        by_cases hxy : x = y
        · have e2 : (y != x) = false := by simp [hxy]
          have HC := hide (cptTo_drop (key := id) h0 HXk.out HYk.out hxy)
          clear hxy
          go_wp2_with fail
          go_roundw
          case rel => exact ⟨k + 1, t, B, d, by omega, by omega, by go_num, rfl, by rw [HC.out]; exact HT, by rw [HC.out]; exact hrow, hb⟩
          case measure => simp [intOf]; omega
        · have e2 : (y != x) = true := by simp; omega
          have HC := hide (cptTo_keep (key := id) h0 HXk.out HYk.out hxy)
          clear hxy
          go_wp2_with (at_builtin; refine halt_here ?_)
          have z1 : Sees (wr.alloc (.cells #[.int .i64 x] 3)) (some ⟨wr.heap.size, 0, none⟩) 1 1 (iv [x]) := (Blk.new wr 3 #[.int .i64 x]).sees (pre := []) (post := []) rfl rfl
          refine ⟨wpList_append_sees _ rfl _ _ _ rfl w.heap.size wr.heap.size 3 i0 _ 1 8 Try.underlying22 hi0 hz0 hz1 hz2 rfl (by omega) B t d _ rfl (hrow.alloc _) _ 1 1 (iv [x]) rfl z1 (iv_one _) (by unfold maxLen; omega) (by omega) (by simp; omega) ?_⟩
          intro A2 c2 w2 hrow2 ho2 _
          rw [← iv_append, ← HC.out] at hrow2
          have hb2 : Below w.heap.size w w2 := (hb.alloc hb.size _).trans (ho2.below (Nat.le_refl _) (by simp; omega))
          clear ho2 z1
          go_wp2_with fail
          go_roundw
          case rel => exact ⟨k + 1, t + 1, A2, c2, by omega, by omega, by go_num, rfl, by show _ = _; rw [HC.out, List.length_append, HT.out]; rfl, hrow2, hb2⟩
          case measure => simp [intOf]; omega
    · obtain rfl : k = n := by omega
      have ec : cptI xs = cptTo id xs k := by rw [cptI, cpt, HX.out]
      have EC := hide ec
      clear ec
      go_wp2_with fail
      go_ret
      rw [EC.out, HT.out]
      exact ⟨B, d, rfl, hrow, hb⟩
set_option maxHeartbeats 400000 in
theorem specCompactRest_any (A : Option Addr) (n c : Nat) (xs : List Int) (w : World) (hs : Sees w A n 1 (iv xs)) (hn : n ≤ 17592186044416) :
    Calls Try.prog 28 #[.slice A n c] w fun e w' =>
      ∃ A' c', e = .returned (.slice A' n c') ∧ Row w' w.heap.size w'.heap.size 3 1 A' n c' (iv (cptI xs ++ List.replicate (n - (cptI xs).length) 0)) ∧ Below w.heap.size w w' := by
  have hx := hs.ilen
  have hl : (cptI xs).length ≤ n := by rw [← hx]; exact cpt_len
  clear hx
  go_enter Try.func28, Try.ntmps28
  go_wp2_with fail
  refine (specCompactInts_any A n c xs _ hs hn).mono ?_
  rintro e w1 ⟨A1, c1, rfl, r1, b1⟩
  go_wp2_with fail
  refine (filled_any A1 (cptI xs).length c1 n (cptI xs) _ r1.sees hl hn).mono ?_
  rintro e w2 ⟨A2, c2, rfl, r2, d2⟩
  go_wp2_with fail
  go_ret
  exact ⟨A2, c2, rfl, r2.more b1.size (Nat.le_refl _) (Nat.le_refl _), b1.trans (d2.mono b1.size)⟩
end Go.Proofs.Ytkjknjigjdpkoaa
