/-
  Contracts: slices.CompactFunc of items by their keys, its wrapper and reference.
-/
import Derived.Test.YtkjknjigjdpkoaaCptBase
import Derived.Test.YtkjknjigjdpkoaaPairs
import Derived.Test.YtkjknjigjdpkoaaMem
namespace Go.Proofs.Ytkjknjigjdpkoaa
open Go.RowKit
set_option linter.unusedVariables false

/-- of items, by their keys -/
def cptP (ps : List (Int × Int)) : List (Int × Int) := cpt Prod.fst ps
theorem atP0 {ps : List (Int × Int)} {post : List Value} {k : Nat} {p : Int × Int} (h : ps[k]? = some p) : (pv ps ++ post)[k * 2]? = some (.int .i64 p.1) := by
  have hk := (List.getElem?_eq_some_iff.1 h).1
  rw [List.getElem?_append_left (by rw [pv_len]; omega), pv_get0, h]
  rfl
theorem atP1 {ps : List (Int × Int)} {post : List Value} {k : Nat} {p : Int × Int} (h : ps[k]? = some p) : (pv ps ++ post)[k * 2 + 1]? = some (.int .i64 p.2) := by
  have hk := (List.getElem?_eq_some_iff.1 h).1
  rw [List.getElem?_append_left (by rw [pv_len]; omega), pv_get1, h]
  rfl
theorem setP_in {ps : List (Int × Int)} {post : List Value} {k : Nat} {x y : Int} (h : k < ps.length) : ((pv ps ++ post).set (k * 2) (.int .i64 x)).set (k * 2 + 1) (.int .i64 y) = pv (ps.set k (x, y)) ++ post := by
  rw [List.set_append_left _ _ (by rw [pv_len]; omega), List.set_append_left _ _ (by rw [List.length_set, pv_len]; omega), pv_set]
theorem zeroPairs (m : Nat) : (Builtin.zeroCells (Value.agg #[.int .i64 0, .int .i64 0]).cells m).toList = pv (List.replicate m (0, 0)) := by
  refine List.ext_getElem? fun j => ?_
  by_cases hj : j < m * 2
  · have h1 : (Builtin.zeroCells (Value.agg #[.int .i64 0, .int .i64 0]).cells m).toList[j]? = some (.int .i64 0) := by
      rcases Nat.mod_two_eq_zero_or_one j with h | h <;> simp [Builtin.zeroCells, Value.cells, hj, h]
    rw [h1]
    rcases Nat.mod_two_eq_zero_or_one j with h | h
    · rw [show j = j / 2 * 2 by omega, pv_get0, List.getElem?_replicate, if_pos (by omega)]
      rfl
    · rw [show j = j / 2 * 2 + 1 by omega, pv_get1, List.getElem?_replicate, if_pos (by omega)]
      rfl
  · rw [List.getElem?_eq_none (by simp [Builtin.zeroCells, Value.cells]; omega), List.getElem?_eq_none (by rw [pv_len, List.length_replicate]; omega)]

theorem sameKeyC_any (x y a b : Int) (w : World) :
    Calls Try.prog 50 #[.agg #[.int .i64 x, .int .i64 y], .agg #[.int .i64 a, .int .i64 b]] w fun e w' => e = .returned (.bool (x == a)) ∧ Below w.heap.size w w' := by
  go_enter Try.func50, Try.ntmps50
  go_wp2
  go_ret
  exact ⟨rfl, ((Below.refl _ _).alloc (Nat.le_refl _) _).alloc (by simp) _⟩

set_option maxHeartbeats 3000000 in
set_option maxRecDepth 100000 in
theorem CompactFunc_row (A : Option Addr) (lo hi n c : Nat) (xs : List (Int × Int)) (w : World) (hr : Row w lo hi 41 2 A n c (pv xs)) (hn : n ≤ 35184372088832) :
    Calls Try.prog 48 #[.slice A n c, .func (.func 50) #[] #[]] w fun e w' =>
      e = .returned (.slice A (cptP xs).length c) ∧ Row w' lo hi 41 2 A n c (pv (cptP xs ++ List.replicate (n - (cptP xs).length) (0, 0))) ∧ Only lo hi w w' := by
  obtain ⟨i0, hi0, hz0, hz1, hz2⟩ := info_parts infoItem
  have hxl := hr.sees.plen
  have hcap := hr.cap
  have hnc := hcap.1
  have hcm := hcap.2
  unfold maxLen at hcm
  clear hcap
  by_cases h2 : n < 2
  · have e0 : cptP xs = xs := by
      show cptTo Prod.fst xs xs.length = xs
      rw [cptTo_all (Nat.le_refl _) (fun j x y h1 hj => by omega), List.take_length]
    rw [e0, hxl, Nat.sub_self, List.replicate_zero, List.append_nil]
    clear hxl e0
    go_enter Try.func48, Try.ntmps48
    go_wp2_with fail
    go_ret
    exact ⟨rfl, hr, Only.refl _ _ _⟩
  · obtain ⟨g, post, hA, hlo, hhi, hb, hl⟩ : ∃ g post, A = some ⟨g, 0, none⟩ ∧ lo ≤ g ∧ g < hi ∧ Blk w g 41 (pv xs ++ post) ∧ (pv xs ++ post).length = c * 2 := by
      obtain ⟨_, h, _, _⟩ := hr.form (by omega)
      exact hr.block h
    subst hA
    have HX := hide hxl
    have HL := hide hl
    have HR := hide hr
    clear hxl hl hr
    go_enter Try.func48, Try.ntmps48
    go_wp2_with fail
    go_loopw [5] (fun i wr => ∃ k : Nat, 1 ≤ k ∧ k ≤ n ∧ i = .int .i64 k ∧ Blk wr g 41 (pv xs ++ post) ∧ Only lo hi w wr ∧ Hid (∀ j x y, 1 ≤ j → j < k → xs[j]? = some x → xs[j - 1]? = some y → ¬ x.1 = y.1)) (fun i _ => n - (intOf i).toNat)
    case atStart => exact ⟨1, Nat.le_refl _, by omega, rfl, hb, Only.refl _ _ _, fun j x y h1 h2 => by omega⟩
    case round =>
      clear hb
      obtain ⟨k, hk1, hk, rfl, hb, ho, HN⟩ := hrel
      by_cases hlt : k < n
      · obtain ⟨⟨x1, x2⟩, HXk⟩ : ∃ x, Hid (xs[k]? = some x) := ⟨_, List.getElem?_eq_getElem (by rw [HX.out]; exact hlt)⟩
        obtain ⟨⟨y1, y2⟩, HYk⟩ : ∃ y, Hid (xs[k - 1]? = some y) := ⟨_, List.getElem?_eq_getElem (by rw [HX.out]; omega)⟩
        have c1 : wr.cell? ⟨g, k * 2, none⟩ = some (.int .i64 x1) := hb.cell (atP0 HXk.out)
        have c2 : wr.cell? ⟨g, k * 2 + 1, none⟩ = some (.int .i64 x2) := hb.cell (atP1 HXk.out)
        have c3 : wr.cell? ⟨g, (k - 1) * 2, none⟩ = some (.int .i64 y1) := hb.cell (atP0 HYk.out)
        have c4 : wr.cell? ⟨g, (k - 1) * 2 + 1, none⟩ = some (.int .i64 y2) := hb.cell (atP1 HYk.out)
        have hw1 : IntKind.i64.wrap ((k : Int) - 1) = ((k - 1 : Nat) : Int) := by rw [IntKind.wrap_i64]; omega
        have hk3 : k - 1 < n := by omega
        go_wp2_with fail
        go_still_tail 10, (by kernel_rfl)
        clear hw1 hk3 c1 c2 c3 c4
        change wpList _ _ _ _ _ wr.drew
        go_wp2_with fail
        refine (sameKeyC_any x1 x2 y1 y2 _).mono ?_
        rintro e w2 ⟨rfl, d2⟩
        have hb2 : Blk w2 g 41 (pv xs ++ post) := hb.drew.below d2 hb.lt
        have ho2 : Only lo hi w w2 := ho.drew.trans (Only.of_below d2 (Nat.le_refl _))
        clear d2 hb ho
        by_cases hxy : x1 = y1
        · rw [show (x1 == y1) = true by simpa using hxy]
          have HK := hide (cptTo_all (key := Prod.fst) (k := k) (by rw [HX.out]; exact hk) HN.out)
          have HK2 := hide (cptTo_drop (key := Prod.fst) hk1 HXk.out HYk.out hxy)
          clear hxy HN
          have q1 : ∀ W, (Instr.slice 33 (.slice (some ⟨g, 0, none⟩) n c) (some (.int .i64 (k : Int))) none none).run Try.prog W = .ok (.slice (some ⟨g, k * 2, none⟩) (n - k) (c - k)) W := fun W => by
            rw [run_slice_lo (P := Try.prog) W 33 41 i0 2 Try.underlying33 hi0 hz1 (some ⟨g, 0, none⟩) n c .i64 k (by omega), cutA_some _ _ _ _ _ (by omega), Nat.zero_add]
          go_wp2_with fail
          clear q1
          go_loopw [5, 7] (fun i j wr => ∃ (t m : Nat) (zs : List (Int × Int)), 1 ≤ m ∧ m ≤ n - k ∧ t + 1 ≤ k + m ∧ i = .int .i64 t ∧ j = .int .i64 m ∧ Hid ((cptTo Prod.fst xs (k + m)).length = t ∧ zs.length = n ∧ zs.take t = cptTo Prod.fst xs (k + m) ∧ zs.drop (k + m - 1) = xs.drop (k + m - 1)) ∧ Blk wr g 41 (pv zs ++ post) ∧ Only lo hi w wr) (fun _ j _ => n - k - (intOf j).toNat)
          case atStart =>
            refine ⟨k, 1, xs, Nat.le_refl _, by omega, by omega, rfl, rfl, ?_, hb2, ho2⟩
            have hlk : (xs.take k).length = k := by rw [List.length_take, HX.out]; omega
            refine ⟨?_, HX.out, ?_, rfl⟩
            · rw [HK2.out, HK.out, hlk]
            · rw [HK2.out, HK.out]
          case round =>
            clear hb2 ho2
            obtain ⟨t, m, zs, hm1, hm, htm, rfl, rfl, HZ, hbz, hoz⟩ := hrel
            by_cases hlm : m < n - k
            · obtain ⟨⟨u1, u2⟩, HU⟩ : ∃ u, Hid (xs[k + m]? = some u) := ⟨_, List.getElem?_eq_getElem (by rw [HX.out]; omega)⟩
              obtain ⟨⟨v1, v2⟩, HV⟩ : ∃ v, Hid (xs[k + m - 1]? = some v) := ⟨_, List.getElem?_eq_getElem (by rw [HX.out]; omega)⟩
              have z1 : zs[k + m]? = some (u1, u2) := by
                have h1 := HZ.out.2.2.2
                have h2 : (zs.drop (k + m - 1))[1]? = (xs.drop (k + m - 1))[1]? := by rw [h1]
                rw [List.getElem?_drop, List.getElem?_drop, show k + m - 1 + 1 = k + m by omega, HU.out] at h2
                exact h2
              have z2 : zs[k + m - 1]? = some (v1, v2) := by
                have h1 := HZ.out.2.2.2
                have h2 : (zs.drop (k + m - 1))[0]? = (xs.drop (k + m - 1))[0]? := by rw [h1]
                rw [List.getElem?_drop, List.getElem?_drop, Nat.add_zero, HV.out] at h2
                exact h2
              have c1 : wr.cell? ⟨g, k * 2 + m * 2, none⟩ = some (.int .i64 u1) := by rw [show k * 2 + m * 2 = (k + m) * 2 by omega]; exact hbz.cell (atP0 z1)
              have c2 : wr.cell? ⟨g, k * 2 + m * 2 + 1, none⟩ = some (.int .i64 u2) := by rw [show k * 2 + m * 2 + 1 = (k + m) * 2 + 1 by omega]; exact hbz.cell (atP1 z1)
              have c3 : wr.cell? ⟨g, k * 2 + (m - 1) * 2, none⟩ = some (.int .i64 v1) := by rw [show k * 2 + (m - 1) * 2 = (k + m - 1) * 2 by omega]; exact hbz.cell (atP0 z2)
              have c4 : wr.cell? ⟨g, k * 2 + (m - 1) * 2 + 1, none⟩ = some (.int .i64 v2) := by rw [show k * 2 + (m - 1) * 2 + 1 = (k + m - 1) * 2 + 1 by omega]; exact hbz.cell (atP1 z2)
              have Z1 := hide z1
              clear z1 z2
              have hw1 : IntKind.i64.wrap ((m : Int) - 1) = ((m - 1 : Nat) : Int) := by rw [IntKind.wrap_i64]; omega
              have hk3 : m - 1 < n - k := by omega
              go_wp2_with fail
              go_still_tail 10, (by kernel_rfl)
              clear hw1 hk3 c1 c2 c3 c4
              change wpList _ _ _ _ _ wr.drew
              go_wp2_with fail
              refine (sameKeyC_any u1 u2 v1 v2 _).mono ?_
              rintro e w3 ⟨rfl, d3⟩
              have hb3 : Blk w3 g 41 (pv zs ++ post) := hbz.drew.below d3 hbz.lt
              have ho3 : Only lo hi w w3 := hoz.drew.trans (Only.of_below d3 (Nat.le_refl _))
              clear d3 hbz hoz
              by_cases huv : u1 = v1
              · rw [show (u1 == v1) = true by simpa using huv]
                have HK3 := hide (cptTo_drop (key := Prod.fst) (show 1 ≤ k + m by omega) HU.out HV.out huv)
                clear huv
                go_wp2_with fail
                go_roundw
                case rel =>
                  refine ⟨t, m + 1, zs, by omega, by omega, by omega, rfl, by go_num, ?_, hb3, ho3⟩
                  obtain ⟨a1, a2, a3, a4⟩ := HZ.out
                  refine ⟨?_, a2, ?_, ?_⟩
                  · rw [← Nat.add_assoc, HK3.out, a1]
                  · rw [← Nat.add_assoc, HK3.out, a3]
                  · rw [show k + (m + 1) - 1 = k + m - 1 + 1 by omega, ← List.drop_drop, ← List.drop_drop, a4]
                case measure => simp [intOf]; omega
              · rw [show (u1 == v1) = false by simpa using huv]
                have HK3 := hide (cptTo_keep (key := Prod.fst) (show 1 ≤ k + m by omega) HU.out HV.out huv)
                clear huv
                have e1 : w3.cell? ⟨g, k * 2 + m * 2, none⟩ = some (.int .i64 u1) := by rw [show k * 2 + m * 2 = (k + m) * 2 by omega]; exact hb3.cell (atP0 Z1.out)
                have e2 : w3.cell? ⟨g, k * 2 + m * 2 + 1, none⟩ = some (.int .i64 u2) := by rw [show k * 2 + m * 2 + 1 = (k + m) * 2 + 1 by omega]; exact hb3.cell (atP1 Z1.out)
                obtain ⟨o1, e3⟩ := hb3.some_cell (i := t * 2) (by rw [List.length_append, pv_len, HZ.out.2.1]; omega)
                obtain ⟨o2, e4⟩ := hb3.some_cell (i := t * 2 + 1) (by rw [List.length_append, pv_len, HZ.out.2.1]; omega)
                have f3 := hb3.frozen (t * 2)
                have f4 := hb3.frozen (t * 2 + 1)
                have ht3 : t < n := by omega
                go_wp2_with fail
                go_roundw
                case rel =>
                  obtain ⟨a1, a2, a3, a4⟩ := HZ.out
                  have hst := (hb3.set (t * 2) (.int .i64 u1)).set (t * 2 + 1) (.int .i64 u2)
                  rw [setP_in (by rw [a2]; omega)] at hst
                  refine ⟨t + 1, m + 1, zs.set t (u1, u2), by omega, by omega, by omega, by go_num, by go_num, ?_, hst, (ho3.setCell (p := ⟨g, t * 2, none⟩) hlo hhi _).setCell (p := ⟨g, t * 2 + 1, none⟩) hlo hhi _⟩
                  refine ⟨?_, by rw [List.length_set, a2], ?_, ?_⟩
                  · rw [← Nat.add_assoc, HK3.out, List.length_append, a1]
                    rfl
                  · rw [← Nat.add_assoc, HK3.out, ← a3]
                    have hs : (zs.set t (u1, u2))[t]? = some (u1, u2) := by rw [List.getElem?_set, if_pos rfl, if_pos (by rw [a2]; omega)]
                    rw [take_snoc hs, List.take_set_of_le (Nat.le_refl _)]
                  · rw [List.drop_set_of_lt (by omega), show k + (m + 1) - 1 = k + m - 1 + 1 by omega, ← List.drop_drop, ← List.drop_drop, a4]
                case measure => simp [intOf]; omega
            · obtain rfl : m = n - k := by omega
              have hkn : k + (n - k) = n := by omega
              rw [hkn] at HZ htm
              have q3 : ∀ W, (Instr.slice 33 (.slice (some ⟨g, 0, none⟩) n c) (some (.int .i64 (t : Int))) none none).run Try.prog W = .ok (.slice (some ⟨g, t * 2, none⟩) (n - t) (c - t)) W := fun W => by
                rw [run_slice_lo (P := Try.prog) W 33 41 i0 2 Try.underlying33 hi0 hz1 (some ⟨g, 0, none⟩) n c .i64 t (by omega), cutA_some _ _ _ _ _ (by omega), Nat.zero_add]
              have q4 := fun W => run_slice_hi (P := Try.prog) W 33 41 i0 Try.underlying33 hi0 (some ⟨g, 0, none⟩) n c .i64 t (by omega)
              clear hkn
              go_wp2_with (with_reducible refine halt_clear ?_)
              refine ⟨wpList_clear_blk wr rfl _ _ rfl 41 i0 _ 2 Try.underlying33 hi0 hz0 rfl (by intro u hu; simp [Value.cells] at hu; subst hu; rfl) (by omega) g (t * 2) (n - t) (c - t) _ hbz ?_ (by omega) rfl ?_⟩
              · rw [List.length_append, pv_len, HZ.out.2.1]; omega
              intro w5 hb5 ho5 hs5
              clear q3
              go_wp2_with fail
              go_ret
              obtain ⟨a1, a2, a3, a4⟩ := HZ.out
              have ec : cptP xs = cptTo Prod.fst xs n := by rw [cptP, cpt, HX.out]
              have ho : Only lo hi w w5 := hoz.trans ⟨ho5.os, ho5.tape, ho5.output, ho5.size, fun k hk h => ho5.block k hk (by omega)⟩
              rw [zeroPairs, List.take_append_of_le_length (by rw [pv_len, a2]; omega), ← pv_take, a3, show t * 2 + (n - t) * 2 = n * 2 by omega, List.drop_left' (by rw [pv_len, a2]), ← pv_append] at hb5
              rw [ec, a1]
              refine ⟨rfl, Row.of_blk hb5 ?_ ?_ hnc (by unfold maxLen; omega) hlo hhi (Nat.le_trans HR.out.2.2 ho.size), ho⟩
              · have := HL.out
                rw [List.length_append, pv_len, HX.out] at this
                rw [List.length_append, pv_len, List.length_append, a1, List.length_replicate]
                omega
              · rw [pv_len, List.length_append, a1, List.length_replicate]
                omega
        · rw [show (x1 == y1) = false by simpa using hxy]
          have HK := hide hxy
          clear hxy
          go_wp2_with fail
          go_roundw
          case rel =>
            refine ⟨k + 1, by omega, by omega, by go_num, hb2, ho2, fun j x' y' h1 h2 hx' hy' => ?_⟩
            by_cases hj : j = k
            · subst hj
              rw [HXk.out] at hx'
              rw [HYk.out] at hy'
              rw [← Option.some.inj hx', ← Option.some.inj hy']
              exact HK.out
            · exact HN.out j x' y' h1 (by omega) hx' hy'
          case measure => simp [intOf]; omega
      · obtain rfl : k = n := by omega
        have e0 : cptP xs = xs := by
          show cptTo Prod.fst xs xs.length = xs
          rw [cptTo_all (Nat.le_refl _) (fun j x y h1 hj => HN.out j x y h1 (by rw [← HX.out]; exact hj)), List.take_length]
        have E0 := hide e0
        have hl2 : (pv xs ++ post).length = c * 2 := HL.out
        have HL2 := hide hl2
        clear e0 hl2
        go_wp2_with fail
        go_ret
        rw [E0.out, HX.out, Nat.sub_self, List.replicate_zero, List.append_nil]
        exact ⟨rfl, Row.of_blk hb HL2.out (by rw [pv_len, HX.out]) hnc (by unfold maxLen; omega) hlo hhi (Nat.le_trans HR.out.2.2 ho.size), ho⟩
end Go.Proofs.Ytkjknjigjdpkoaa
