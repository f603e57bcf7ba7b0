/-
  Contracts: slices.Delete, its wrappers and references.
-/
import Derived.Test.YtnbgopagjahkpaaSmall
import Derived.Test.YtnbgopagjahkpaaMem
namespace Go.Proofs.Ytnbgopagjahkpaa
open Go.RowKit
set_option linter.unusedVariables false

theorem zeroInts (m : Nat) : (Builtin.zeroCells (Value.int .i64 0).cells m).toList = iv (List.replicate m 0) := by
  refine List.ext_getElem? fun j => ?_
  by_cases hj : j < m
  · rw [iv_get, List.getElem?_replicate, if_pos hj]
    simp [Builtin.zeroCells, Value.cells, hj, Nat.mod_one]
  · rw [List.getElem?_eq_none (by simp [Builtin.zeroCells, Value.cells]; omega), List.getElem?_eq_none (by rw [iv_len, List.length_replicate]; omega)]

set_option maxHeartbeats 800000 in
theorem Delete_ok (A : Option Addr) (lo hi n c i j : Nat) (xs : List Int) (w : World) (hr : Row w lo hi 3 1 A n c (iv xs)) (hij : i ≤ j) (hj : j ≤ n) (hn : n ≤ 70368744177664) :
    Calls Try.prog 15 #[.slice A n c, .int .i64 i, .int .i64 j] w fun e w' =>
      e = .returned (.slice A (i + (n - j)) c) ∧ Row w' lo hi 3 1 A n c (iv (xs.take i ++ xs.drop j ++ List.replicate (j - i) 0)) ∧ Only lo hi w w' := by
  obtain ⟨i0, hi0, hz0, hz1, hz2⟩ := info_parts intInfo
  have hxl := hr.sees.ilen
  have hcap := hr.cap
  have hnc := hcap.1
  have hcm := hcap.2
  unfold maxLen at hcm
  clear hcap
  rcases Nat.lt_or_ge i j with hlt | hge
  · obtain ⟨g, post, hA, hlo, hhi, hb, hl⟩ : ∃ g post, A = some ⟨g, 0, none⟩ ∧ lo ≤ g ∧ g < hi ∧ Blk w g 3 (iv xs ++ post) ∧ (iv xs ++ post).length = c * 1 := by
      obtain ⟨_, h, _, _⟩ := hr.form (by omega)
      exact hr.block h
    subst hA
    have e1 : ((i : Int) == (j : Int)) = false := by simp; omega
    have HXL := hide hxl
    have HL := hide hl
    clear hxl hl
    go_enter Try.func15, Try.ntmps15
    go_wp2_with fail
    have q1 := fun W => run_slice_hi (P := Try.prog) W 22 3 i0 Try.underlying22 hi0 (some ⟨g, 0, none⟩) n c .i64 i (by omega)
    have q2 := fun W => run_slice_lo (P := Try.prog) W 22 3 i0 1 Try.underlying22 hi0 hz1 (some ⟨g, 0, none⟩) n c .i64 j (by omega)
    go_still_tail 6, (by kernel_rfl)
    clear q1 q2
    change wpList _ _ _ _ _ w.drew
    have hsee : Sees w.drew (cutA (some ⟨g, 0, none⟩) c j 1) (n - j) 1 (iv (xs.drop j)) := by
      have h1 := (hr.sees.cutA (k := j) (m := n - j) (c := c) (by omega) hnc).drew
      rw [Nat.mul_one, Nat.mul_one, ← iv_drop, ← iv_take, List.take_of_length_le (by rw [List.length_drop, HXL.out]; exact Nat.le_refl _)] at h1
      exact h1
    refine wpList_append_blk w.drew rfl _ _ _ rfl 3 i0 1 Try.underlying22 hi0 hz1 g i c (iv xs ++ post) hb.drew HL.out rfl _ (n - j) (c - j) (iv (xs.drop j)) rfl hsee (iv_one _) (by omega) ?_
    intro w1 hb1 ho1 hs1
    obtain ⟨k, hk⟩ : ∃ k, i + (n - j) = k := ⟨_, rfl⟩
    rw [hk] at hb1 ⊢
    have l1 : k < n := by omega
    have HK := hide hk
    clear hk
    have hb2 : Blk w1 g 3 (iv (xs.take i ++ xs.drop j) ++ (iv (xs.drop k) ++ post)) := by
      have e1 : (iv xs ++ post).take (i * 1) = iv (xs.take i) := by rw [Nat.mul_one, List.take_append_of_le_length (by rw [iv_len, HXL.out]; omega), iv_take]
      have e2 : (iv xs ++ post).drop (k * 1) = iv (xs.drop k) ++ post := by rw [Nat.mul_one, List.drop_append_of_le_length (by rw [iv_len, HXL.out]; omega), iv_drop]
      rw [e1, e2, ← iv_append] at hb1
      exact hb1
    clear hb1
    have hlk : (xs.take i ++ xs.drop j).length = k := by rw [List.length_append, List.length_take, List.length_drop, HXL.out, ← HK.out]; omega
    have HLK := hide hlk
    clear hlk
    have q3 : ∀ W, (Instr.slice 22 (.slice (some ⟨g, 0, none⟩) k c) (some (.int .i64 (k : Int))) (some (.int .i64 (n : Int))) none).run Try.prog W = .ok (.slice (some ⟨g, k, none⟩) (n - k) (c - k)) W := fun W => by
      rw [run_slice_mid (P := Try.prog) W 22 3 i0 1 Try.underlying22 hi0 hz1 (some ⟨g, 0, none⟩) k c .i64 .i64 k n (by omega) (by omega), cutA_some _ _ _ _ _ (by omega), Nat.zero_add, Nat.mul_one]
    go_wp2_with (with_reducible refine halt_clear ?_)
    refine ⟨wpList_clear_blk w1 rfl _ _ rfl 3 i0 _ 1 Try.underlying22 hi0 hz0 rfl (by intro u hu; simp [Value.cells] at hu; subst hu; rfl) (by omega) g k (n - k) (c - k) _ hb2 ?_ (by omega) rfl ?_⟩
    · rw [List.length_append, iv_len, HLK.out, List.length_append, iv_len, List.length_drop, HXL.out]; omega
    intro w2 hb3 ho3 hs3
    clear q3
    go_wp2_with fail
    go_ret
    have ho : Only lo hi w w2 := by
      have h1 : Only g (g + 1) w w2 := ((Only.refl _ _ w).drew.trans ho1).trans ho3
      exact ⟨h1.os, h1.tape, h1.output, h1.size, fun k hk h => h1.block k hk (by omega)⟩
    rw [zeroInts, List.take_left' (by rw [iv_len, HLK.out]), show k + (n - k) * 1 = k + (n - k) by omega] at hb3
    have e3 : (iv (xs.take i ++ xs.drop j) ++ (iv (xs.drop k) ++ post)).drop (k + (n - k)) = post := by
      rw [← List.append_assoc]
      exact List.drop_left' (by rw [List.length_append, iv_len, HLK.out, iv_len, List.length_drop, HXL.out])
    rw [e3, ← iv_append, show n - k = j - i by rw [← HK.out]; omega] at hb3
    refine ⟨?_, Row.of_blk hb3 ?_ ?_ hnc (by unfold maxLen; omega) hlo hhi (Nat.le_trans hr.2.2 ho.size), ho⟩
    · rw [HK.out]
      rfl
    · have := HL.out
      rw [List.length_append, iv_len, HXL.out] at this
      rw [List.length_append, iv_len, List.length_append, HLK.out, List.length_replicate]
      have := HK.out
      omega
    · rw [iv_len, List.length_append, HLK.out, List.length_replicate]
      have := HK.out
      omega
  · obtain rfl : i = j := by omega
    have e1 : ((i : Int) == (i : Int)) = true := by simp
    have q1 := fun W => run_slice3 (P := Try.prog) W 22 3 i0 1 Try.underlying22 hi0 hz1 A n c .i64 .i64 .i64 i i n (Nat.le_refl _) hj hnc
    go_enter Try.func15, Try.ntmps15
    go_wp2_with fail
    go_ret
    refine ⟨?_, ?_, Only.refl _ _ _⟩
    · rw [show i + (n - i) = n by omega]
      rfl
    · rw [Nat.sub_self, List.replicate_zero, List.append_nil, List.take_append_drop]
      exact hr

set_option maxHeartbeats 400000 in
theorem Delete_panics (A : Option Addr) (n c : Nat) (i j : Int) (w : World) (hc : n ≤ c) (h : j < 0 ∨ (n : Int) < j ∨ i < 0 ∨ j < i) :
    Calls Try.prog 15 #[.slice A n c, .int .i64 i, .int .i64 j] w (Panics w) := by
  obtain ⟨pv, q, hrun⟩ := run_slice3_out (P := Try.prog) w 22 3 Try.underlying22 A n c n .i64 .i64 .i64 i j hc h
  go_enter Try.func15, Try.ntmps15
  go_wp2_with fail
  exact ⟨rfl, _, _, rfl, below_drewN (Below.refl _ _) q⟩

end Go.Proofs.Ytnbgopagjahkpaa
