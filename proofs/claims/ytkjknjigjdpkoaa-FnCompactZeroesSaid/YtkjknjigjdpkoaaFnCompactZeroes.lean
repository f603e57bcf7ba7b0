/-
  Behind slices.Compact the memory has the list, and zeros up to its old length; no condition.
-/
import Derived.Test.YtkjknjigjdpkoaaLift
import Derived.Test.YtkjknjigjdpkoaaCompact
namespace Go.Proofs.Ytkjknjigjdpkoaa.fnCompactZeroes
open Go.ChangeShapes Go.WideShapes Go.ChangeAt Go.RowKit
set_option linter.unusedVariables false

set_option maxHeartbeats 2000000 in
set_option maxRecDepth 100000 in
theorem walk (A0 : Option Addr) (n0 c0 : Nat) (xs0 : List Int) (w : World) (h0 : Sees w A0 n0 1 (iv xs0)) (hc0 : n0 ≤ c0) (hw0 : ∀ x ∈ xs0, (Lit.int .i64 x).wf = true) (hn0 : n0 ≤ 17592186043904) :
    Calls Try.prog 12 #[.slice A0 n0 c0] w fun e w' => e = .returned (.bool true) ∧ Below w.heap.size w w' := by
  obtain ⟨i0, hi0, hz0, hz1, hz2⟩ := info_parts intInfo
  obtain ⟨k, hk⟩ : ∃ k, (cptI xs0).length = k := ⟨_, rfl⟩
  have hkn : k ≤ n0 := by rw [← hk, ← h0.ilen]; exact cpt_len
  have e1 : ((n0 : Int) != (n0 : Int)) = false := by simp
  have HK := hide hk
  clear hk
  go_enter Try.func12, Try.ntmps12
  go_wp2_with fail
  refine (CompactInts_any A0 n0 c0 xs0 _ h0 (by omega)).mono ?_
  rintro e w1 ⟨Ay, cy, rfl, y, d1⟩
  have b1 : Below w.heap.size w w1 := (Below.refl w.heap.size w).trans (d1.mono (Below.refl w.heap.size w).size)
  have s1 : w.heap.size ≤ w1.heap.size := d1.size
  clear d1
  rw [HK.out] at y ⊢
  go_wp2_with fail
  refine (CompactRest_any A0 n0 c0 xs0 _ (h0.below b1) (by omega)).mono ?_
  rintro e w2 ⟨Az, cz, rfl, z, d2⟩
  have b2 : Below w.heap.size w w2 := b1.trans (d2.mono b1.size)
  have s2 : w1.heap.size ≤ w2.heap.size := d2.size
  replace y := y.next d2
  clear d2
  rw [HK.out] at z
  have hcz := z.cap
  have q1 := fun W => run_slice_hi (P := Try.prog) W 22 3 i0 Try.underlying22 hi0 Az n0 cz .i64 k (by omega)
  have q2 := fun W => run_slice_lo (P := Try.prog) W 22 3 i0 1 Try.underlying22 hi0 hz1 Az n0 cz .i64 k (by omega)
  have v1 : Sees w2 Az k 1 (iv (cptI xs0)) := by
    have t1 := z.sees.cutA (k := 0) (m := k) (c := cz) (by omega) hcz.1
    rw [cutA_zero, Nat.zero_mul, List.drop_zero, Nat.mul_one, ← iv_take, List.take_left' HK.out] at t1
    exact t1
  have v2 : Sees w2 (cutA Az cz k 1) (n0 - k) 1 (iv (List.replicate (n0 - k) 0)) := by
    have t1 := z.sees.cutA (k := k) (m := n0 - k) (c := cz) (by omega) hcz.1
    rw [Nat.mul_one, Nat.mul_one, ← iv_drop, List.drop_left' HK.out, ← iv_take, List.take_of_length_le (by rw [List.length_replicate]; exact Nat.le_refl _)] at t1
    exact t1
  clear hcz
  go_wp2_with fail
  refine (sameInts_b Az Ay k k cz cy (cptI xs0) (cptI xs0) _ v1 y.sees (by omega) (by omega)).mono ?_
  rintro e w3 ⟨rfl, d3⟩
  rw [decide_eq_true rfl]
  have b3 : Below w.heap.size w w3 := b2.trans (d3.mono b2.size)
  have v3 := v2.below d3
  clear d3 v1 v2 y z
  go_wp2_with fail
  go_loop [37] (fun t => ∃ m : Nat, m ≤ n0 - k ∧ t = .int .i64 m) (fun t => n0 - k - (intOf t).toNat)
  case atStart => exact ⟨0, Nat.zero_le _, rfl⟩
  case round =>
    obtain ⟨m, hm, rfl⟩ := hrel
    by_cases hlt : m < n0 - k
    · obtain ⟨ad, x, hA, _, HXm, hcx⟩ := v3.int hlt
      rw [hA]
      obtain rfl : x = 0 := by
        have t1 := HXm.out
        rw [List.getElem?_replicate, if_pos hlt] at t1
        exact (Option.some.inj t1).symm
      have e4 : ((0 : Int) != 0) = false := by simp
      clear hA
      go_wp2_with fail
      go_round
      case rel => exact ⟨m + 1, by omega, by go_num⟩
      case measure => simp [intOf]; omega
    · go_wp2_with fail
      go_ret
      exact ⟨rfl, b3⟩

set_option maxRecDepth 100000 in
theorem lifted (os : Os) (started : os.Started) (H : Type) (enc : TypeId × Value → H) :
    ReturnsInHanded {} Try.checked os 12 .any (Rows.fnCompactZeroesSpec.pre6 enc Try.prog Try.f12 Rows.fnCompactZeroesRow.domain false) (Rows.fnCompactZeroesSpec.post enc Try.prog Try.f12 false true false false) := by
  refine returnsInHanded_of_change_sized (C := Try.checked) ownKnob_none started (by kernel_rfl) Try.func12
    (ChangeSpec.witness6 (enc := enc) (C := Try.checked) false ⟨#[], #[.slice none 0 0], []⟩ 8 (by kernel_rfl) (by kernel_rfl) (by kernel_rfl) (by kernel_rfl)) ?_
  intro W base args ds gs before hval0 hW hcnd hsz0 _
  have hsz : (DataW.weightsEach Try.prog (Try.f12.params.toList ++ Rows.fnCompactZeroesSpec.plain.varTypes Try.prog) (ds ++ gs)).all (· ≤ reachBytes) = true := hsz0
  have hval : ∀ (j : Nat) t v, Try.f12.params[j]? = some t → args[j]? = some v → Value.okWide Try.prog W .any base t v := hval0
  have hW' := hW
  obtain ⟨p, q, hA0, hV, rfl, hfz, hnd⟩ := hW
  have hA : DataW.TrodAll enc Try.prog W 0 (fun _ => true) true Try.f12.params.toList args.toList ds p := hA0
  rw [Try.params12] at hA hval hsz
  obtain ⟨v0, vs0, d0, ds0, p0, q0, hargs, rfl, rfl, h0, r0⟩ := trodAll_cons hA
  obtain ⟨rfl, rfl, rfl⟩ := trodAll_nil r0
  obtain rfl : args = #[v0] := by cases args; simp_all
  obtain ⟨rfl, rfl⟩ := trodVars_none hV
  have k0 := h0
  have lt0 : ∀ x ∈ p0, x.block < W.heap.size := by obtain ⟨m, hm⟩ := k0; exact DataW.trod_lt m _ _ _ hm
  obtain ⟨A0, n0, c0, xs0, rfl, s0, c0c, _, w0, z0, u0⟩ := arg_ints (hval 0 22 v0 rfl rfl) h0
  clear hA0 hval0 hsz0
  refine (walk A0 n0 c0 xs0 W s0 c0c w0 (z0 (weights_arg hsz 0 rfl rfl))).mono fun e W' ⟨he, bel⟩ => ?_
  subst he
  exact ⟨_, rfl, _, _, _, [], _, [], hW', trodAll_mk1 (shut_bool Try.underlying4 _), (trodAll_cons_mk (Below.trod laidOut (by kernel_rfl) (of_decide_eq_true (by kernel_rfl)) k0 bel lt0) trodAll_mk0), rfl, bel.frame _, fun h => by cases h⟩

theorem over : Rows.fnCompactZeroesRow.holds Try.pinned (OpenSpec.ofChange Rows.fnCompactZeroesSpec) :=
  OpenClaim.holds_of_wide 12 Try.f12 rfl rfl rfl rfl rfl rfl rfl ⟨rfl, rfl, rfl, rfl, rfl⟩ rfl rfl rfl rfl rfl (by kernel_rfl) Try.func12 (by kernel_rfl)
    (of_decide_eq_true (by kernel_rfl)) (by unfold Func.isWrapper; first | (rw [if_pos (by decide +kernel)]; kernel_rfl) | (rw [if_neg (by decide +kernel)]; exact ⟨rfl, rfl⟩))
    (fun os started H enc _ => lifted os started H enc)

theorem proved : Rows.FnCompactZeroesSaid := over
end Go.Proofs.Ytkjknjigjdpkoaa.fnCompactZeroes
