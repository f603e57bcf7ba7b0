/-
  Behind slices.Replace of a part by fewer numbers the memory has the list, and zeros up to its old length; no condition.
-/
import Derived.Test.YtbcjcceejddocaaLift
import Derived.Test.YtbcjcceejddocaaRepW
namespace Go.Proofs.Ytbcjcceejddocaa.fnReplaceZeroes
open Go.ChangeShapes Go.WideShapes Go.ChangeAt Go.RowKit
set_option linter.unusedVariables false

set_option maxHeartbeats 2000000 in
set_option maxRecDepth 100000 in
theorem walk (A0 : Option Addr) (n0 c0 : Nat) (xs0 : List Int) (a1 : Int) (a2 : Int) (A3 : Option Addr) (n3 c3 : Nat) (xs3 : List Int) (w : World) (h0 : Sees w A0 n0 1 (iv xs0)) (hc0 : n0 ≤ c0) (hw0 : ∀ x ∈ xs0, (Lit.int .i64 x).wf = true) (hn0 : n0 ≤ 17592186043904) (hw1 : (Lit.int .i64 a1).wf = true) (hw2 : (Lit.int .i64 a2).wf = true) (h3 : Sees w A3 n3 1 (iv xs3)) (hc3 : n3 ≤ c3) (hw3 : ∀ x ∈ xs3, (Lit.int .i64 x).wf = true) (hn3 : n3 ≤ 17592186043904) :
    Calls Try.prog 12 #[.slice A0 n0 c0, .int .i64 a1, .int .i64 a2, .slice A3 n3 c3] w fun e w' => e = .returned (.bool true) ∧ Below w.heap.size w w' := by
  by_cases g1 : a1 < 0
  · go_enter Try.func12, Try.ntmps12
    go_wp2_with fail
    go_ret
    exact ⟨rfl, Below.refl _ _⟩
  by_cases g2 : a2 < a1
  · go_enter Try.func12, Try.ntmps12
    go_wp2_with fail
    go_ret
    exact ⟨rfl, Below.refl _ _⟩
  by_cases g3 : (n0 : Int) < a2
  · go_enter Try.func12, Try.ntmps12
    go_wp2_with fail
    go_ret
    exact ⟨rfl, Below.refl _ _⟩
  obtain ⟨i, rfl⟩ : ∃ i : Nat, a1 = (i : Int) := ⟨a1.toNat, by omega⟩
  obtain ⟨j, rfl⟩ : ∃ j : Nat, a2 = (j : Int) := ⟨a2.toNat, by omega⟩
  have hij : i ≤ j := by omega
  have hj : j ≤ n0 := by omega
  clear g1 g2 g3
  by_cases g4 : j ≤ i + n3
  · have g5 : decide ((j : Int) - (i : Int) ≤ (n3 : Int)) = true := by simp; omega
    go_enter Try.func12, Try.ntmps12
    go_wp2_with fail
    go_ret
    exact ⟨rfl, Below.refl _ _⟩
  have l0 : i + n3 < j := by omega
  have g5 : decide ((j : Int) - (i : Int) ≤ (n3 : Int)) = false := by simp; omega
  clear g4
  obtain ⟨i0, hi0, hz0, hz1, hz2⟩ := info_parts intInfo
  obtain ⟨k, hk⟩ : ∃ k, i + n3 + (n0 - j) = k := ⟨_, rfl⟩
  have hkn : k ≤ n0 := by omega
  have e1 : ((n0 : Int) != (n0 : Int)) = false := by simp
  have e2 : (((k : Nat) : Int) != (n0 : Int) - ((j : Int) - (i : Int)) + (n3 : Int)) = false := by simp; omega
  have HX := hide h0.ilen
  have HV := hide h3.ilen
  have HK := hide hk
  clear hk
  go_enter Try.func12, Try.ntmps12
  go_wp2_with fail
  refine (ReplaceInts_ok A0 n0 c0 i j xs0 A3 n3 c3 xs3 _ h0 h3 hij hj (by omega) (by omega)).mono ?_
  rintro e w1 ⟨Ay, cy, rfl, y, d1⟩
  have b1 : Below w.heap.size w w1 := (Below.refl w.heap.size w).trans (d1.mono (Below.refl w.heap.size w).size)
  have s1 : w.heap.size ≤ w1.heap.size := d1.size
  clear d1
  rw [HK.out] at y ⊢
  go_wp2_with fail
  refine (ReplaceRest_ok A0 n0 c0 i j xs0 A3 n3 c3 xs3 _ (h0.below b1) (h3.below b1) hij hj (by have := HK.out; omega) (by omega)).mono ?_
  rintro e w2 ⟨Az, cz, rfl, tz, d2⟩
  have b2 : Below w.heap.size w w2 := b1.trans (d2.mono b1.size)
  have s2 : w1.heap.size ≤ w2.heap.size := d2.size
  replace y := y.next d2
  clear d2
  have z := tz l0
  clear tz
  obtain ⟨ys, hys⟩ : ∃ ys, ins xs0 i xs3 j = ys := ⟨_, rfl⟩
  have hyl : ys.length = k := by rw [← hys, ins_len HX.out HV.out (by omega) hj, HK.out]
  rw [hys] at y z
  rw [show j - (i + n3) = n0 - k by have := HK.out; omega] at z
  have hcz := z.cap
  have q1 := fun W => run_slice_hi (P := Try.prog) W 22 3 i0 Try.underlying22 hi0 Az n0 cz .i64 k (by omega)
  have q2 := fun W => run_slice_lo (P := Try.prog) W 22 3 i0 1 Try.underlying22 hi0 hz1 Az n0 cz .i64 k (by omega)
  have v1 : Sees w2 Az k 1 (iv ys) := by
    have t1 := z.sees.cutA (k := 0) (m := k) (c := cz) (by omega) hcz.1
    rw [cutA_zero, Nat.zero_mul, List.drop_zero, Nat.mul_one, ← iv_take, List.take_left' hyl] at t1
    exact t1
  have v2 : Sees w2 (cutA Az cz k 1) (n0 - k) 1 (iv (List.replicate (n0 - k) 0)) := by
    have t1 := z.sees.cutA (k := k) (m := n0 - k) (c := cz) (by omega) hcz.1
    rw [Nat.mul_one, Nat.mul_one, ← iv_drop, List.drop_left' hyl, ← iv_take, List.take_of_length_le (by rw [List.length_replicate]; exact Nat.le_refl _)] at t1
    exact t1
  have V2 : Hid (∀ W, Below w2.heap.size w2 W → Sees W (cutA Az cz k 1) (n0 - k) 1 (iv (List.replicate (n0 - k) 0))) := fun W hW => v2.below hW
  clear hyl hcz hys v2
  go_wp2_with fail
  refine (sameInts_b Az Ay k k cz cy ys ys _ v1 y.sees (by omega) (by omega)).mono ?_
  rintro e w3 ⟨rfl, d3⟩
  have b3 : Below w.heap.size w w3 := b2.trans (d3.mono b2.size)
  have s3 : w2.heap.size ≤ w3.heap.size := d3.size
  replace y := y.next d3
  replace z := z.next d3
  have v3 : Sees w3 (cutA Az cz k 1) (n0 - k) 1 (iv (List.replicate (n0 - k) 0)) := V2.out w3 d3
  clear d3 V2
  rw [decide_eq_true rfl]
  go_wp2_with fail
  go_loop [93] (fun t => ∃ m : Nat, m ≤ n0 - k ∧ t = .int .i64 m) (fun t => n0 - k - (intOf t).toNat)
  case atStart => exact ⟨0, Nat.zero_le _, rfl⟩
  case round =>
    obtain ⟨m, hm, rfl⟩ := hrel
    by_cases hlt : m < n0 - k
    · obtain ⟨ad, x, hA, _, HXm, hcx⟩ := v3.int hlt
      rw [hA]
      obtain rfl : x = 0 := by
        have t1 := HXm.out
        rw [List.getElem?_replicate, if_pos hlt] at t1
        exact (Option.some.inj t1).symm
      have e4 : ((0 : Int) != 0) = false := by simp
      clear hA
      go_wp2_with fail
      go_round
      case rel => exact ⟨m + 1, by omega, by go_num⟩
      case measure => simp [intOf]; omega
    · go_wp2_with fail
      go_ret
      exact ⟨rfl, b3⟩

set_option maxRecDepth 100000 in
theorem lifted (os : Os) (started : os.Started) (H : Type) (enc : TypeId × Value → H) :
    ReturnsInHanded {} Try.checked os 12 .any (Rows.fnReplaceZeroesSpec.pre6 enc Try.prog Try.f12 Rows.fnReplaceZeroesRow.domain false) (Rows.fnReplaceZeroesSpec.post enc Try.prog Try.f12 false true false false) := by
  refine returnsInHanded_of_change_sized (C := Try.checked) ownKnob_none started (by kernel_rfl) Try.func12
    (ChangeSpec.witness6 (enc := enc) (C := Try.checked) false ⟨#[], #[.slice none 0 0, .int .i64 0, .int .i64 0, .slice none 0 0], []⟩ 8 (by kernel_rfl) (by kernel_rfl) (by kernel_rfl) (by kernel_rfl)) ?_
  intro W base args ds gs before hval0 hW hcnd hsz0 _
  have hsz : (DataW.weightsEach Try.prog (Try.f12.params.toList ++ Rows.fnReplaceZeroesSpec.plain.varTypes Try.prog) (ds ++ gs)).all (· ≤ reachBytes) = true := hsz0
  have hval : ∀ (j : Nat) t v, Try.f12.params[j]? = some t → args[j]? = some v → Value.okWide Try.prog W .any base t v := hval0
  have hW' := hW
  obtain ⟨p, q, hA0, hV, rfl, hfz, hnd⟩ := hW
  have hA : DataW.TrodAll enc Try.prog W 0 (fun _ => true) true Try.f12.params.toList args.toList ds p := hA0
  rw [Try.params12] at hA hval hsz
  obtain ⟨v0, vs0, d0, ds0, p0, q0, hargs, rfl, rfl, h0, r0⟩ := trodAll_cons hA
  obtain ⟨v1, vs1, d1, ds1, p1, q1, rfl, rfl, rfl, h1, r1⟩ := trodAll_cons r0
  obtain ⟨v2, vs2, d2, ds2, p2, q2, rfl, rfl, rfl, h2, r2⟩ := trodAll_cons r1
  obtain ⟨v3, vs3, d3, ds3, p3, q3, rfl, rfl, rfl, h3, r3⟩ := trodAll_cons r2
  obtain ⟨rfl, rfl, rfl⟩ := trodAll_nil r3
  obtain rfl : args = #[v0, v1, v2, v3] := by cases args; simp_all
  obtain ⟨rfl, rfl⟩ := trodVars_none hV
  have k0 := h0
  have lt0 : ∀ x ∈ p0, x.block < W.heap.size := by obtain ⟨m, hm⟩ := k0; exact DataW.trod_lt m _ _ _ hm
  obtain ⟨A0, n0, c0, xs0, rfl, s0, c0c, _, w0, z0, u0⟩ := arg_ints (hval 0 22 v0 rfl rfl) h0
  obtain ⟨a1, rfl, rfl, rfl, w1⟩ := open_int Try.underlying3 (hval 1 3 v1 rfl rfl) h1
  obtain ⟨a2, rfl, rfl, rfl, w2⟩ := open_int Try.underlying3 (hval 2 3 v2 rfl rfl) h2
  have k3 := h3
  have lt3 : ∀ x ∈ p3, x.block < W.heap.size := by obtain ⟨m, hm⟩ := k3; exact DataW.trod_lt m _ _ _ hm
  obtain ⟨A3, n3, c3, xs3, rfl, s3, c3c, _, w3, z3, u3⟩ := arg_ints (hval 3 22 v3 rfl rfl) h3
  clear hA0 hval0 hsz0
  refine (walk A0 n0 c0 xs0 a1 a2 A3 n3 c3 xs3 W s0 c0c w0 (z0 (weights_arg hsz 0 rfl rfl)) w1 w2 s3 c3c w3 (z3 (weights_arg hsz 3 rfl rfl))).mono fun e W' ⟨he, bel⟩ => ?_
  subst he
  exact ⟨_, rfl, _, _, _, [], _, [], hW', trodAll_mk1 (shut_bool Try.underlying4 _), (trodAll_cons_mk (Below.trod laidOut (by kernel_rfl) (of_decide_eq_true (by kernel_rfl)) k0 bel lt0) (trodAll_cons_mk (shut_int Try.underlying3 w1) (trodAll_cons_mk (shut_int Try.underlying3 w2) (trodAll_cons_mk (Below.trod laidOut (by kernel_rfl) (of_decide_eq_true (by kernel_rfl)) k3 bel lt3) trodAll_mk0)))), rfl, bel.frame _, fun h => by cases h⟩

theorem over : Rows.fnReplaceZeroesRow.holds Try.pinned (OpenSpec.ofChange Rows.fnReplaceZeroesSpec) :=
  OpenClaim.holds_of_wide 12 Try.f12 rfl rfl rfl rfl rfl rfl rfl ⟨rfl, rfl, rfl, rfl, rfl⟩ rfl rfl rfl rfl rfl (by kernel_rfl) Try.func12 (by kernel_rfl)
    (of_decide_eq_true (by kernel_rfl)) (by unfold Func.isWrapper; first | (rw [if_pos (by decide +kernel)]; kernel_rfl) | (rw [if_neg (by decide +kernel)]; exact ⟨rfl, rfl⟩))
    (fun os started H enc _ => lifted os started H enc)

theorem proved : Rows.FnReplaceZeroesSaid := over
end Go.Proofs.Ytbcjcceejddocaa.fnReplaceZeroes
