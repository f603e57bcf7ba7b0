/-
  slices.Repeat has the list as often as told, for at most a million numbers, and panics if the number is negative or if the product of it and the length is too great; no condition.
-/
import Derived.Test.YtjmceapdokkleaaLift
import Derived.Test.YtjmceapdokkleaaRepeatS
namespace Go.Proofs.Ytjmceapdokkleaa.fnRepeatInts
open Go.ChangeShapes Go.WideShapes Go.ChangeAt Go.RowKit
set_option linter.unusedVariables false

set_option maxHeartbeats 2000000 in
set_option maxRecDepth 100000 in
theorem walk (A0 : Option Addr) (n0 c0 : Nat) (xs0 : List Int) (a1 : Int) (w : World) (h0 : Sees w A0 n0 1 (iv xs0)) (hc0 : n0 ≤ c0) (hw0 : ∀ x ∈ xs0, (Lit.int .i64 x).wf = true) (hn0 : n0 ≤ 17592186043904) (hw1 : (Lit.int .i64 a1).wf = true) :
    Calls Try.prog 6 #[.slice A0 n0 c0, .int .i64 a1] w fun e w' => e = .returned (.bool true) ∧ Below w.heap.size w w' := by
  have hbd := bounds_i64 hw1
  by_cases g1 : a1 < 0
  · clear hbd
    have g2 : ¬ 0 < a1 := by omega
    go_enter Try.func6, Try.ntmps6
    go_wp2_with fail
    refine (RepeatInts_neg A0 n0 c0 a1 _ g1).mono ?_
    rintro e w1 ⟨rfl, d1⟩
    have b1 : Below w.heap.size w w1 := (Below.refl w.heap.size w).trans (d1.mono (Below.refl w.heap.size w).size)
    have s1 : w.heap.size ≤ w1.heap.size := d1.size
    clear d1
    go_wp2_with fail
    refine (specRepeatInts_neg A0 n0 c0 a1 _ g1).mono ?_
    rintro e w2 ⟨rfl, d2⟩
    have b2 : Below w.heap.size w w2 := b1.trans (d2.mono b1.size)
    have s2 : w1.heap.size ≤ w2.heap.size := d2.size
    clear d2
    go_wp2_with fail
    refine (sameInts_b none none 0 0 0 0 [] [] _ Sees.nil_ Sees.nil_ (by omega) (by omega)).mono ?_
    rintro e w3 ⟨rfl, d3⟩
    have b3 : Below w.heap.size w w3 := b2.trans (d3.mono b2.size)
    have s3 : w2.heap.size ≤ w3.heap.size := d3.size
    clear d3
    rw [decide_eq_true rfl]
    go_wp2_with fail
    go_ret
    exact ⟨rfl, b3⟩
  obtain ⟨k, rfl⟩ : ∃ k : Nat, a1 = (k : Int) := ⟨a1.toNat, by omega⟩
  have HK := hide hbd.2
  obtain ⟨P, hP⟩ : ∃ P, n0 * k = P := ⟨_, rfl⟩
  have HP := hide hP
  clear hbd g1
  by_cases g2 : 0 < k
  · by_cases g3 : 0 < n0
    · have e0 : ((n0 : Int) == 0) = false := by simp; omega
      have d1 := quo_max n0
      have d2 := quo_mio n0
      have m1 := quo_le 9223372036854775807 n0
      have m2 := quo_le 1000000 n0
      have v1 := le_quo (k := k) (a := 9223372036854775807) g3
      have v2 := le_quo (k := k) (a := 1000000) g3
      rw [hP] at v1 v2
      obtain ⟨D, hD⟩ : ∃ D, 9223372036854775807 / n0 = D := ⟨_, rfl⟩
      obtain ⟨E, hE⟩ : ∃ E, 1000000 / n0 = E := ⟨_, rfl⟩
      rw [hD] at d1 m1 v1
      rw [hE] at d2 m2 v2
      have u1 : IntKind.i64.wrap (D : Int) = (D : Int) := by rw [IntKind.wrap_i64]; omega
      have u2 : IntKind.i64.wrap (E : Int) = (E : Int) := by rw [IntKind.wrap_i64]; omega
      clear hD hE m1 m2 hP
      by_cases g4 : k ≤ D
      · by_cases g5 : E < k
        · clear v1 v2
          go_enter Try.func6, Try.ntmps6
          go_wp2_with fail
          go_ret
          exact ⟨rfl, Below.refl _ _⟩
        · have hb : P ≤ 1000000 := v2.1 (by omega)
          clear v1 v2
          go_enter Try.func6, Try.ntmps6
          go_wp2_with fail
          refine (RepeatInts_ok A0 n0 c0 k P xs0 _ h0 (by omega) HK.out HP.out (by omega)).mono ?_
          rintro e w1 ⟨Ay, cy, rfl, y, d1⟩
          have b1 : Below w.heap.size w w1 := (Below.refl w.heap.size w).trans (d1.mono (Below.refl w.heap.size w).size)
          have s1 : w.heap.size ≤ w1.heap.size := d1.size
          clear d1
          go_wp2_with fail
          refine (specRepeatInts_ok A0 n0 c0 k P xs0 _ (h0.below b1) (by omega) HK.out HP.out (by omega)).mono ?_
          rintro e w2 ⟨Az, cz, rfl, z, d2⟩
          have b2 : Below w.heap.size w w2 := b1.trans (d2.mono b1.size)
          have s2 : w1.heap.size ≤ w2.heap.size := d2.size
          replace y := y.next d2
          clear d2
          go_wp2_with fail
          refine (sameInts_b Ay Az P P cy cz (rep k xs0) (rep k xs0) _ y.sees z.sees (by omega) (by omega)).mono ?_
          rintro e w3 ⟨rfl, d3⟩
          have b3 : Below w.heap.size w w3 := b2.trans (d3.mono b2.size)
          have s3 : w2.heap.size ≤ w3.heap.size := d3.size
          replace y := y.next d3
          replace z := z.next d3
          clear d3
          rw [decide_eq_true rfl]
          go_wp2_with fail
          go_ret
          exact ⟨rfl, b3⟩
      · have hb : 9223372036854775808 ≤ n0 * k := by
          have : ¬ P ≤ 9223372036854775807 := fun h => g4 (v1.2 h)
          rw [HP.out]
          omega
        have HB := hide hb
        clear v1 v2 hb
        go_enter Try.func6, Try.ntmps6
        go_wp2_with fail
        refine (RepeatInts_over A0 n0 c0 k _ (by omega) HK.out HB.out).mono ?_
        rintro e w1 ⟨rfl, d1⟩
        have b1 : Below w.heap.size w w1 := (Below.refl w.heap.size w).trans (d1.mono (Below.refl w.heap.size w).size)
        have s1 : w.heap.size ≤ w1.heap.size := d1.size
        clear d1
        go_wp2_with fail
        refine (specRepeatInts_over A0 n0 c0 k _ (by omega) HK.out HB.out).mono ?_
        rintro e w2 ⟨rfl, d2⟩
        have b2 : Below w.heap.size w w2 := b1.trans (d2.mono b1.size)
        have s2 : w1.heap.size ≤ w2.heap.size := d2.size
        clear d2
        go_wp2_with fail
        refine (sameInts_b none none 0 0 0 0 [] [] _ Sees.nil_ Sees.nil_ (by omega) (by omega)).mono ?_
        rintro e w3 ⟨rfl, d3⟩
        have b3 : Below w.heap.size w w3 := b2.trans (d3.mono b2.size)
        have s3 : w2.heap.size ≤ w3.heap.size := d3.size
        clear d3
        rw [decide_eq_true rfl]
        go_wp2_with fail
        go_ret
        exact ⟨rfl, b3⟩
    · have hb : P = 0 := by rw [← hP, show n0 = 0 by omega, Nat.zero_mul]
      have hb2 : P ≤ 0 := by omega
      clear hb hP
      go_enter Try.func6, Try.ntmps6
      go_wp2_with fail
      refine (RepeatInts_ok A0 n0 c0 k P xs0 _ h0 (by omega) HK.out HP.out (by omega)).mono ?_
      rintro e w1 ⟨Ay, cy, rfl, y, d1⟩
      have b1 : Below w.heap.size w w1 := (Below.refl w.heap.size w).trans (d1.mono (Below.refl w.heap.size w).size)
      have s1 : w.heap.size ≤ w1.heap.size := d1.size
      clear d1
      go_wp2_with fail
      refine (specRepeatInts_ok A0 n0 c0 k P xs0 _ (h0.below b1) (by omega) HK.out HP.out (by omega)).mono ?_
      rintro e w2 ⟨Az, cz, rfl, z, d2⟩
      have b2 : Below w.heap.size w w2 := b1.trans (d2.mono b1.size)
      have s2 : w1.heap.size ≤ w2.heap.size := d2.size
      replace y := y.next d2
      clear d2
      go_wp2_with fail
      refine (sameInts_b Ay Az P P cy cz (rep k xs0) (rep k xs0) _ y.sees z.sees (by omega) (by omega)).mono ?_
      rintro e w3 ⟨rfl, d3⟩
      have b3 : Below w.heap.size w w3 := b2.trans (d3.mono b2.size)
      have s3 : w2.heap.size ≤ w3.heap.size := d3.size
      replace y := y.next d3
      replace z := z.next d3
      clear d3
      rw [decide_eq_true rfl]
      go_wp2_with fail
      go_ret
      exact ⟨rfl, b3⟩
  · have hb : P = 0 := by rw [← hP, show k = 0 by omega, Nat.mul_zero]
    have hb2 : P ≤ 0 := by omega
    clear hb hP
    go_enter Try.func6, Try.ntmps6
    go_wp2_with fail
    refine (RepeatInts_ok A0 n0 c0 k P xs0 _ h0 (by omega) HK.out HP.out (by omega)).mono ?_
    rintro e w1 ⟨Ay, cy, rfl, y, d1⟩
    have b1 : Below w.heap.size w w1 := (Below.refl w.heap.size w).trans (d1.mono (Below.refl w.heap.size w).size)
    have s1 : w.heap.size ≤ w1.heap.size := d1.size
    clear d1
    go_wp2_with fail
    refine (specRepeatInts_ok A0 n0 c0 k P xs0 _ (h0.below b1) (by omega) HK.out HP.out (by omega)).mono ?_
    rintro e w2 ⟨Az, cz, rfl, z, d2⟩
    have b2 : Below w.heap.size w w2 := b1.trans (d2.mono b1.size)
    have s2 : w1.heap.size ≤ w2.heap.size := d2.size
    replace y := y.next d2
    clear d2
    go_wp2_with fail
    refine (sameInts_b Ay Az P P cy cz (rep k xs0) (rep k xs0) _ y.sees z.sees (by omega) (by omega)).mono ?_
    rintro e w3 ⟨rfl, d3⟩
    have b3 : Below w.heap.size w w3 := b2.trans (d3.mono b2.size)
    have s3 : w2.heap.size ≤ w3.heap.size := d3.size
    replace y := y.next d3
    replace z := z.next d3
    clear d3
    rw [decide_eq_true rfl]
    go_wp2_with fail
    go_ret
    exact ⟨rfl, b3⟩

set_option maxRecDepth 100000 in
theorem lifted (os : Os) (started : os.Started) (H : Type) (enc : TypeId × Value → H) :
    ReturnsInHanded {} Try.checked os 6 .any (Rows.fnRepeatIntsSpec.pre6 enc Try.prog Try.f6 Rows.fnRepeatIntsRow.domain false) (Rows.fnRepeatIntsSpec.post enc Try.prog Try.f6 false true false false) := by
  refine returnsInHanded_of_change_sized (C := Try.checked) ownKnob_none started (by kernel_rfl) Try.func6
    (ChangeSpec.witness6 (enc := enc) (C := Try.checked) false ⟨#[], #[.slice none 0 0, .int .i64 0], []⟩ 8 (by kernel_rfl) (by kernel_rfl) (by kernel_rfl) (by kernel_rfl)) ?_
  intro W base args ds gs before hval0 hW hcnd hsz0 _
  have hsz : (DataW.weightsEach Try.prog (Try.f6.params.toList ++ Rows.fnRepeatIntsSpec.plain.varTypes Try.prog) (ds ++ gs)).all (· ≤ reachBytes) = true := hsz0
  have hval : ∀ (j : Nat) t v, Try.f6.params[j]? = some t → args[j]? = some v → Value.okWide Try.prog W .any base t v := hval0
  have hW' := hW
  obtain ⟨p, q, hA0, hV, rfl, hfz, hnd⟩ := hW
  have hA : DataW.TrodAll enc Try.prog W 0 (fun _ => true) true Try.f6.params.toList args.toList ds p := hA0
  rw [Try.params6] at hA hval hsz
  obtain ⟨v0, vs0, d0, ds0, p0, q0, hargs, rfl, rfl, h0, r0⟩ := trodAll_cons hA
  obtain ⟨v1, vs1, d1, ds1, p1, q1, rfl, rfl, rfl, h1, r1⟩ := trodAll_cons r0
  obtain ⟨rfl, rfl, rfl⟩ := trodAll_nil r1
  obtain rfl : args = #[v0, v1] := by cases args; simp_all
  obtain ⟨rfl, rfl⟩ := trodVars_none hV
  have k0 := h0
  have lt0 : ∀ x ∈ p0, x.block < W.heap.size := by obtain ⟨m, hm⟩ := k0; exact DataW.trod_lt m _ _ _ hm
  obtain ⟨A0, n0, c0, xs0, rfl, s0, c0c, _, w0, z0, u0⟩ := arg_ints (hval 0 23 v0 rfl rfl) h0
  obtain ⟨a1, rfl, rfl, rfl, w1⟩ := open_int Try.underlying3 (hval 1 3 v1 rfl rfl) h1
  clear hA0 hval0 hsz0
  refine (walk A0 n0 c0 xs0 a1 W s0 c0c w0 (z0 (weights_arg hsz 0 rfl rfl)) w1).mono fun e W' ⟨he, bel⟩ => ?_
  subst he
  exact ⟨_, rfl, _, _, _, [], _, [], hW', trodAll_mk1 (shut_bool Try.underlying4 _), (trodAll_cons_mk (Below.trod laidOut (by kernel_rfl) (of_decide_eq_true (by kernel_rfl)) k0 bel lt0) (trodAll_cons_mk (shut_int Try.underlying3 w1) trodAll_mk0)), rfl, bel.frame _, fun h => by cases h⟩

theorem over : Rows.fnRepeatIntsRow.holds Try.pinned (OpenSpec.ofChange Rows.fnRepeatIntsSpec) :=
  OpenClaim.holds_of_wide 6 Try.f6 rfl rfl rfl rfl rfl rfl rfl ⟨rfl, rfl, rfl, rfl, rfl⟩ rfl rfl rfl rfl rfl (by kernel_rfl) Try.func6 (by kernel_rfl)
    (of_decide_eq_true (by kernel_rfl)) (by unfold Func.isWrapper; first | (rw [if_pos (by decide +kernel)]; kernel_rfl) | (rw [if_neg (by decide +kernel)]; exact ⟨rfl, rfl⟩))
    (fun os started H enc _ => lifted os started H enc)

theorem proved : Rows.FnRepeatIntsSaid := over
end Go.Proofs.Ytjmceapdokkleaa.fnRepeatInts
