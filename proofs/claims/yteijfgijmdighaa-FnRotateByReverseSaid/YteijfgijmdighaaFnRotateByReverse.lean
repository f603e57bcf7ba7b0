/-
  Reversing the first k numbers, the others, and all of them rotates the list by k; no condition.
-/
import Derived.Test.YteijfgijmdighaaLift
import Derived.Test.YteijfgijmdighaaParts
import Derived.Deep.RegionWith
namespace Go.Proofs.Yteijfgijmdighaa.fnRotateByReverse
open Go.ChangeShapes Go.WideShapes Go.ChangeAt Go.RowKit
set_option linter.unusedVariables false

theorem rotate (xs : List Int) (k n : Nat) (hn : xs.length = n) (hk : k ≤ n) : revAll [(0, (k : Int)), ((k : Int), (n : Int)), (0, (n : Int))] xs = xs.drop k ++ xs.take k := by
  have z : rnd 0 n = 0 := rnd_in (k := 0) (Nat.zero_le _)
  have e1 : ∀ (p : Int × Int) (ys : List Int), ys.length = n → revOne ys p = revPart (lowEnd p n) (highEnd p n) ys := fun p ys h => by rw [revOne, h]
  have l0 : lowEnd (0, (k : Int)) n = 0 ∧ highEnd (0, (k : Int)) n = k := by simp only [lowEnd, highEnd, z, rnd_in hk]; omega
  have l1 : lowEnd ((k : Int), (n : Int)) n = k ∧ highEnd ((k : Int), (n : Int)) n = n := by simp only [lowEnd, highEnd, rnd_in hk, rnd_in (Nat.le_refl n)]; omega
  have l2 : lowEnd (0, (n : Int)) n = 0 ∧ highEnd (0, (n : Int)) n = n := by simp only [lowEnd, highEnd, z, rnd_in (Nat.le_refl n)]; omega
  show revOne (revOne (revOne xs (0, (k : Int))) ((k : Int), (n : Int))) (0, (n : Int)) = _
  rw [e1 _ xs hn, l0.1, l0.2, e1 ((k : Int), (n : Int)) (revPart 0 k xs) (by rw [revPart_len _ _ _ (Nat.zero_le _) (by omega), hn]), l1.1, l1.2, e1 (0, (n : Int)) _ (by rw [revPart_len _ _ _ (by omega) (by rw [revPart_len _ _ _ (Nat.zero_le _) (by omega)]; omega), revPart_len _ _ _ (Nat.zero_le _) (by omega), hn]), l2.1, l2.2]
  have a1 : revPart 0 k xs = (xs.take k).reverse ++ xs.drop k := by simp [revPart]
  have hl : ((xs.take k).reverse).length = k := by simp; omega
  have hd : (xs.drop k).length = n - k := by rw [List.length_drop, hn]
  have a2 : revPart k n (revPart 0 k xs) = (xs.take k).reverse ++ (xs.drop k).reverse := by
    rw [a1, revPart, List.take_left' hl, List.drop_left' hl]
    have t1 : (xs.drop k).take (n - k) = xs.drop k := List.take_of_length_le (by omega)
    have t2 : ((xs.take k).reverse ++ xs.drop k).drop n = [] := List.drop_of_length_le (by rw [List.length_append, hl, hd]; omega)
    rw [t1, t2, List.append_nil]
  have hl2 : ((xs.take k).reverse ++ (xs.drop k).reverse).length = n := by rw [List.length_append, hl, List.length_reverse, hd]; omega
  rw [a2, revPart]
  simp only [List.take_zero, List.drop_zero, List.nil_append, Nat.sub_zero]
  have t3 : ((xs.take k).reverse ++ (xs.drop k).reverse).take n = (xs.take k).reverse ++ (xs.drop k).reverse := List.take_of_length_le (by omega)
  have t4 : ((xs.take k).reverse ++ (xs.drop k).reverse).drop n = [] := List.drop_of_length_le (by omega)
  rw [t3, t4, List.append_nil, List.reverse_append, List.reverse_reverse, List.reverse_reverse]

set_option maxHeartbeats 2000000 in
set_option maxRecDepth 100000 in
theorem walk (A0 : Option Addr) (n0 c0 : Nat) (xs0 : List Int) (a1 : Int) (w : World) (h0 : Sees w A0 n0 1 (iv xs0)) (hc0 : n0 ≤ c0) (hw0 : ∀ x ∈ xs0, (Lit.int .i64 x).wf = true) (hn0 : n0 ≤ 17592186043904) (hw1 : (Lit.int .i64 a1).wf = true) :
    Calls Try.prog 13 #[.slice A0 n0 c0, .int .i64 a1] w fun e w' => e = .returned (.bool true) ∧ Below w.heap.size w w' := by
  by_cases g1 : a1 < 0
  · go_enter Try.func13, Try.ntmps13
    go_wp2_with fail
    go_ret
    exact ⟨rfl, Below.refl _ _⟩
  by_cases g2 : (n0 : Int) < a1
  · go_enter Try.func13, Try.ntmps13
    go_wp2_with fail
    go_ret
    exact ⟨rfl, Below.refl _ _⟩
  obtain ⟨i0, hi0, hz0, hz1, hz2⟩ := info_parts intInfo
  obtain ⟨k, rfl⟩ : ∃ k : Nat, a1 = (k : Int) := ⟨a1.toNat, by omega⟩
  have hkn : k ≤ n0 := by omega
  clear g1 g2
  have HX := hide h0.ilen
  go_enter Try.func13, Try.ntmps13
  go_wp2_with fail
  have z1 : Sees (w.alloc (.cells #[.int .i64 0, .int .i64 (k : Int), .int .i64 (k : Int), .int .i64 (n0 : Int), .int .i64 0, .int .i64 (n0 : Int)] 48)) (some ⟨w.heap.size, 0, none⟩) 3 2 (pv [(0, (k : Int)), ((k : Int), (n0 : Int)), (0, (n0 : Int))]) := (Blk.new w 48 #[.int .i64 0, .int .i64 (k : Int), .int .i64 (k : Int), .int .i64 (n0 : Int), .int .i64 0, .int .i64 (n0 : Int)]).sees (off := 0) (n := 3) (sz := 2) (pre := []) (xs := pv [(0, (k : Int)), ((k : Int), (n0 : Int)), (0, (n0 : Int))]) (post := []) rfl rfl
  have b0 : Below w.heap.size w (w.alloc (.cells #[.int .i64 0, .int .i64 (k : Int), .int .i64 (k : Int), .int .i64 (n0 : Int), .int .i64 0, .int .i64 (n0 : Int)] 48)) := (Below.refl _ _).alloc (Nat.le_refl _) _
  refine (ReverseParts_any A0 _ n0 3 c0 3 xs0 _ _ (h0.below b0) z1 (by omega) (by omega)).mono ?_
  rintro e w1 ⟨A2, c2, rfl, r2, d1⟩
  have b1 : Below w.heap.size w w1 := b0.trans (d1.mono b0.size)
  clear d1 z1 b0
  rw [rotate xs0 k n0 HX.out hkn] at r2
  have q1 := fun W => run_slice_lo (P := Try.prog) W 22 3 i0 1 Try.underlying22 hi0 hz1 A0 n0 c0 .i64 k (by omega)
  have q2 := fun W => run_slice_hi (P := Try.prog) W 22 3 i0 Try.underlying22 hi0 A0 n0 c0 .i64 k (by omega)
  have x := h0.below b1
  have v1 : Sees w1 (cutA A0 c0 k 1) (n0 - k) 1 (iv (xs0.drop k)) := by
    have t1 := x.cutA (k := k) (m := n0 - k) (c := c0) (by omega) hc0
    rw [Nat.mul_one, Nat.mul_one, ← iv_drop, ← iv_take, List.take_of_length_le (by rw [List.length_drop, HX.out]; exact Nat.le_refl _)] at t1
    exact t1
  have v2 : Sees w1 A0 k 1 (iv (xs0.take k)) := by
    have t1 := x.cutA (k := 0) (m := k) (c := c0) (by omega) hc0
    rw [cutA_zero, Nat.zero_mul, List.drop_zero, Nat.mul_one, ← iv_take] at t1
    exact t1
  clear x
  go_wp2_with fail
  have V1 := hide v1.drew
  have V2 := hide v2.drew
  have R2 := hide r2.drew
  have B1 : Hid (Below w.heap.size w w1.drew) := b1.drew
  have e0 : n0 - k + k = n0 := by omega
  have E0 := hide e0
  clear v1 v2 r2 b1 e0
  go_region_with (first | (go_at_call 31; refine (joined_any _ A0 (n0 - k) k (c0 - k) c0 (xs0.drop k) (xs0.take k) _ V1.out V2.out (by omega)).mono ?_; rintro e w3 ⟨A3, c3, rfl, r3, d3⟩; have b3 : Below w.heap.size w w3 := B1.out.trans (d3.mono B1.out.size); have r4 := R2.out.next d3; clear d3; rw [E0.out] at r3 ⊢) | (go_at_call 32; refine (sameInts_b A2 A3 n0 n0 c2 c3 (xs0.drop k ++ xs0.take k) (xs0.drop k ++ xs0.take k) _ r4.sees r3.sees (by omega) (by omega)).mono ?_; rintro e w5 ⟨rfl, d5⟩; rw [decide_eq_true rfl]; have b5 : Below w.heap.size w w5 := b3.trans (d5.mono b3.size); clear d5))
  all_goals
    go_wp2_with fail
    go_ret
    exact ⟨rfl, b5⟩

set_option maxRecDepth 100000 in
theorem lifted (os : Os) (started : os.Started) (H : Type) (enc : TypeId × Value → H) :
    ReturnsInHanded {} Try.checked os 13 .any (Rows.fnRotateByReverseSpec.pre6 enc Try.prog Try.f13 Rows.fnRotateByReverseRow.domain false) (Rows.fnRotateByReverseSpec.post enc Try.prog Try.f13 false true false false) := by
  refine returnsInHanded_of_change_sized (C := Try.checked) ownKnob_none started (by kernel_rfl) Try.func13
    (ChangeSpec.witness6 (enc := enc) (C := Try.checked) false ⟨#[], #[.slice none 0 0, .int .i64 0], []⟩ 8 (by kernel_rfl) (by kernel_rfl) (by kernel_rfl) (by kernel_rfl)) ?_
  intro W base args ds gs before hval0 hW hcnd hsz0 _
  have hsz : (DataW.weightsEach Try.prog (Try.f13.params.toList ++ Rows.fnRotateByReverseSpec.plain.varTypes Try.prog) (ds ++ gs)).all (· ≤ reachBytes) = true := hsz0
  have hval : ∀ (j : Nat) t v, Try.f13.params[j]? = some t → args[j]? = some v → Value.okWide Try.prog W .any base t v := hval0
  have hW' := hW
  obtain ⟨p, q, hA0, hV, rfl, hfz, hnd⟩ := hW
  have hA : DataW.TrodAll enc Try.prog W 0 (fun _ => true) true Try.f13.params.toList args.toList ds p := hA0
  rw [Try.params13] at hA hval hsz
  obtain ⟨v0, vs0, d0, ds0, p0, q0, hargs, rfl, rfl, h0, r0⟩ := trodAll_cons hA
  obtain ⟨v1, vs1, d1, ds1, p1, q1, rfl, rfl, rfl, h1, r1⟩ := trodAll_cons r0
  obtain ⟨rfl, rfl, rfl⟩ := trodAll_nil r1
  obtain rfl : args = #[v0, v1] := by cases args; simp_all
  obtain ⟨rfl, rfl⟩ := trodVars_none hV
  have k0 := h0
  have lt0 : ∀ x ∈ p0, x.block < W.heap.size := by obtain ⟨m, hm⟩ := k0; exact DataW.trod_lt m _ _ _ hm
  obtain ⟨A0, n0, c0, xs0, rfl, s0, c0c, _, w0, z0, u0⟩ := arg_ints (hval 0 22 v0 rfl rfl) h0
  obtain ⟨a1, rfl, rfl, rfl, w1⟩ := open_int Try.underlying3 (hval 1 3 v1 rfl rfl) h1
  clear hA0 hval0 hsz0
  refine (walk A0 n0 c0 xs0 a1 W s0 c0c w0 (z0 (weights_arg hsz 0 rfl rfl)) w1).mono fun e W' ⟨he, bel⟩ => ?_
  subst he
  exact ⟨_, rfl, _, _, _, [], _, [], hW', trodAll_mk1 (shut_bool Try.underlying4 _), (trodAll_cons_mk (Below.trod laidOut (by kernel_rfl) (of_decide_eq_true (by kernel_rfl)) k0 bel lt0) (trodAll_cons_mk (shut_int Try.underlying3 w1) trodAll_mk0)), rfl, bel.frame _, fun h => by cases h⟩

theorem over : Rows.fnRotateByReverseRow.holds Try.pinned (OpenSpec.ofChange Rows.fnRotateByReverseSpec) :=
  OpenClaim.holds_of_wide 13 Try.f13 rfl rfl rfl rfl rfl rfl rfl ⟨rfl, rfl, rfl, rfl, rfl⟩ rfl rfl rfl rfl rfl (by kernel_rfl) Try.func13 (by kernel_rfl)
    (of_decide_eq_true (by kernel_rfl)) (by unfold Func.isWrapper; first | (rw [if_pos (by decide +kernel)]; kernel_rfl) | (rw [if_neg (by decide +kernel)]; exact ⟨rfl, rfl⟩))
    (fun os started H enc _ => lifted os started H enc)

theorem proved : Rows.FnRotateByReverseSaid := over
end Go.Proofs.Yteijfgijmdighaa.fnRotateByReverse
