/-
  CompareStrings, for every two lists, returns what the reference returns and leaves its arguments as they were; no condition.
-/
import Derived.Test.YtgogocodhilfnaaLift
import Derived.Test.YtgogocodhilfnaaCmpStrs
import Derived.Test.YtgogocodhilfnaaLiftStrs
namespace Go.Proofs.Ytgogocodhilfnaa.fnExactCompareStrings
open Go.ChangeShapes Go.WideShapes Go.ChangeAt Go.RowKit
set_option linter.unusedVariables false

set_option maxHeartbeats 1000000 in
theorem walk (A0 : Option Addr) (n0 c0 : Nat) (ss0 : List ByteArray) (A1 : Option Addr) (n1 c1 : Nat) (ss1 : List ByteArray) (w : World) (h0 : Sees w A0 n0 1 (sv ss0)) (hc0 : n0 ≤ c0) (hw0 : ∀ x ∈ ss0, x.size ≤ maxLen) (hn0 : n0 ≤ 8796093021952) (h1 : Sees w A1 n1 1 (sv ss1)) (hc1 : n1 ≤ c1) (hw1 : ∀ x ∈ ss1, x.size ≤ maxLen) (hn1 : n1 ≤ 8796093021952) :
    Calls Try.prog 10 #[.slice A0 n0 c0, .slice A1 n1 c1] w fun e w' => e = .returned (.bool true) ∧ Below w.heap.size w w' := by
  have HW0 := hide hw0
  have HW1 := hide hw1
  clear hw0 hw1
  go_enter Try.func10, Try.ntmps10
  go_wp2_with fail
  refine (szStringS_any A0 n0 c0 (1048576) ss0 _ h0 (by omega) HW0.out (by omega) (by omega)).mono ?_
  rintro e w' ⟨ra, rfl, rfl, ra1, ra2, ra3⟩
  by_cases hra : ra < 0
  · go_wp2_with fail
    go_ret
    exact ⟨rfl, Below.refl _ _⟩
  have hb0 := ra3.out (by omega)
  clear ra3
  go_wp2_with fail
  refine (szStringS_any A1 n1 c1 (ra) ss1 _ h1 (by omega) HW1.out (by omega) (by omega)).mono ?_
  rintro e w' ⟨rb, rfl, rfl, rb1, rb2, rb3⟩
  by_cases hrb : rb < 0
  · go_wp2_with fail
    go_ret
    exact ⟨rfl, Below.refl _ _⟩
  have hb1 := rb3.out (by omega)
  clear rb3
  go_wp2_with fail
  refine (toStringS_any A0 n0 c0 ss0 _ h0 (by omega)).mono ?_
  rintro e w1 ⟨Aa, ca, rfl, a, d1⟩
  have b1 : Below w.heap.size w w1 := (Below.refl w.heap.size w).trans (d1.mono (Below.refl w.heap.size w).size)
  have s1 : w.heap.size ≤ w1.heap.size := d1.size
  clear d1
  go_wp2_with fail
  refine (toStringS_any A1 n1 c1 ss1 _ (h1.below b1) (by omega)).mono ?_
  rintro e w2 ⟨Ab, cb, rfl, b, d2⟩
  have b2 : Below w.heap.size w w2 := b1.trans (d2.mono b1.size)
  have s2 : w1.heap.size ≤ w2.heap.size := d2.size
  replace a := a.next d2
  clear d2
  go_wp2_with fail
  refine (quiet_b (specCompareStrings_any Aa Ab n0 n1 ca cb ss0 ss1 _ a.sees b.sees (by omega) (by omega) HW0.out HW1.out)).mono ?_
  rintro e w3 ⟨rfl, d3⟩
  have b3 : Below w.heap.size w w3 := b2.trans (d3.mono b2.size)
  have s3 : w2.heap.size ≤ w3.heap.size := d3.size
  replace a := a.next d3
  replace b := b.next d3
  clear d3
  go_wp2_with fail
  refine (toStringS_any A0 n0 c0 ss0 _ (h0.below b3) (by omega)).mono ?_
  rintro e w4 ⟨Ax, cx, rfl, x, d4⟩
  have b4 : Below w.heap.size w w4 := b3.trans (d4.mono b3.size)
  have s4 : w3.heap.size ≤ w4.heap.size := d4.size
  replace a := a.next d4
  replace b := b.next d4
  clear d4
  go_wp2_with fail
  refine (toStringS_any A1 n1 c1 ss1 _ (h1.below b4) (by omega)).mono ?_
  rintro e w5 ⟨Ay, cy, rfl, y, d5⟩
  have b5 : Below w.heap.size w w5 := b4.trans (d5.mono b4.size)
  have s5 : w4.heap.size ≤ w5.heap.size := d5.size
  replace a := a.next d5
  replace b := b.next d5
  replace x := x.next d5
  clear d5
  go_wp2_with fail
  refine (CompareStrings_any Ax Ay n0 n1 cx cy ss0 ss1 _ x.sees y.sees (by omega) (by omega)).mono ?_
  rintro e w' ⟨rfl, rfl⟩
  have e1 : (cmpT ss0 ss1 != cmpT ss0 ss1) = false := by simp
  go_wp2_with fail
  refine (toStringS_any A0 n0 c0 ss0 _ (h0.below b5) (by omega)).mono ?_
  rintro e w6 ⟨Ap, cp, rfl, p, d6⟩
  have b6 : Below w.heap.size w w6 := b5.trans (d6.mono b5.size)
  have s6 : w5.heap.size ≤ w6.heap.size := d6.size
  replace a := a.next d6
  replace b := b.next d6
  replace x := x.next d6
  replace y := y.next d6
  clear d6
  go_wp2_with fail
  refine (eqStringS_b Ax Ap n0 n0 cx cp ss0 ss0 _ x.sees p.sees (by omega) (by omega)).mono ?_
  rintro e w7 ⟨rfl, d7⟩
  have b7 : Below w.heap.size w w7 := b6.trans (d7.mono b6.size)
  have s7 : w6.heap.size ≤ w7.heap.size := d7.size
  replace a := a.next d7
  replace b := b.next d7
  replace x := x.next d7
  replace y := y.next d7
  replace p := p.next d7
  clear d7
  rw [decide_eq_true rfl]
  go_wp2_with fail
  refine (toStringS_any A1 n1 c1 ss1 _ (h1.below b7) (by omega)).mono ?_
  rintro e w8 ⟨Aq, cq, rfl, q, d8⟩
  have b8 : Below w.heap.size w w8 := b7.trans (d8.mono b7.size)
  have s8 : w7.heap.size ≤ w8.heap.size := d8.size
  replace a := a.next d8
  replace b := b.next d8
  replace x := x.next d8
  replace y := y.next d8
  replace p := p.next d8
  clear d8
  go_wp2_with fail
  refine (eqStringS_b Ay Aq n1 n1 cy cq ss1 ss1 _ y.sees q.sees (by omega) (by omega)).mono ?_
  rintro e w9 ⟨rfl, d9⟩
  have b9 : Below w.heap.size w w9 := b8.trans (d9.mono b8.size)
  have s9 : w8.heap.size ≤ w9.heap.size := d9.size
  replace a := a.next d9
  replace b := b.next d9
  replace x := x.next d9
  replace y := y.next d9
  replace p := p.next d9
  replace q := q.next d9
  clear d9
  rw [decide_eq_true rfl]
  go_wp2_with fail
  go_ret
  exact ⟨rfl, b9⟩

set_option maxRecDepth 100000 in
theorem lifted (os : Os) (started : os.Started) (H : Type) (enc : TypeId × Value → H) :
    ReturnsInHanded {} Try.checked os 10 .any (Rows.fnExactCompareStringsSpec.pre6 enc Try.prog Try.f10 Rows.fnExactCompareStringsRow.domain false) (Rows.fnExactCompareStringsSpec.post enc Try.prog Try.f10 false true false false) := by
  refine returnsInHanded_of_change_sized (C := Try.checked) ownKnob_none started (by kernel_rfl) Try.func10
    (ChangeSpec.witness6 (enc := enc) (C := Try.checked) false ⟨#[], #[.slice none 0 0, .slice none 0 0], []⟩ 8 (by kernel_rfl) (by kernel_rfl) (by kernel_rfl) (by kernel_rfl)) ?_
  intro W base args ds gs before hval0 hW hcnd hsz0 _
  have hsz : (DataW.weightsEach Try.prog (Try.f10.params.toList ++ Rows.fnExactCompareStringsSpec.plain.varTypes Try.prog) (ds ++ gs)).all (· ≤ reachBytes) = true := hsz0
  have hval : ∀ (j : Nat) t v, Try.f10.params[j]? = some t → args[j]? = some v → Value.okWide Try.prog W .any base t v := hval0
  have hW' := hW
  obtain ⟨p, q, hA0, hV, rfl, hfz, hnd⟩ := hW
  have hA : DataW.TrodAll enc Try.prog W 0 (fun _ => true) true Try.f10.params.toList args.toList ds p := hA0
  rw [Try.params10] at hA hval hsz
  obtain ⟨v0, vs0, d0, ds0, p0, q0, hargs, rfl, rfl, h0, r0⟩ := trodAll_cons hA
  obtain ⟨v1, vs1, d1, ds1, p1, q1, rfl, rfl, rfl, h1, r1⟩ := trodAll_cons r0
  obtain ⟨rfl, rfl, rfl⟩ := trodAll_nil r1
  obtain rfl : args = #[v0, v1] := by cases args; simp_all
  obtain ⟨rfl, rfl⟩ := trodVars_none hV
  have k0 := h0
  have lt0 : ∀ x ∈ p0, x.block < W.heap.size := by obtain ⟨m, hm⟩ := k0; exact DataW.trod_lt m _ _ _ hm
  obtain ⟨A0, n0, c0, ss0, rfl, s0, c0c, _, w0, z0⟩ := arg_strs (hval 0 25 v0 rfl rfl) h0
  have k1 := h1
  have lt1 : ∀ x ∈ p1, x.block < W.heap.size := by obtain ⟨m, hm⟩ := k1; exact DataW.trod_lt m _ _ _ hm
  obtain ⟨A1, n1, c1, ss1, rfl, s1, c1c, _, w1, z1⟩ := arg_strs (hval 1 25 v1 rfl rfl) h1
  clear hA0 hval0 hsz0
  refine (walk A0 n0 c0 ss0 A1 n1 c1 ss1 W s0 c0c w0 (z0 (weights_arg hsz 0 rfl rfl)) s1 c1c w1 (z1 (weights_arg hsz 1 rfl rfl))).mono fun e W' ⟨he, bel⟩ => ?_
  subst he
  exact ⟨_, rfl, _, _, _, [], _, [], hW', trodAll_mk1 (shut_bool Try.underlying4 _), (trodAll_cons_mk (Below.trod laidOut (by kernel_rfl) (of_decide_eq_true (by kernel_rfl)) k0 bel lt0) (trodAll_cons_mk (Below.trod laidOut (by kernel_rfl) (of_decide_eq_true (by kernel_rfl)) k1 bel lt1) trodAll_mk0)), rfl, bel.frame _, fun h => by cases h⟩

theorem over : Rows.fnExactCompareStringsRow.holds Try.pinned (OpenSpec.ofChange Rows.fnExactCompareStringsSpec) :=
  OpenClaim.holds_of_wide 10 Try.f10 rfl rfl rfl rfl rfl rfl rfl ⟨rfl, rfl, rfl, rfl, rfl⟩ rfl rfl rfl rfl rfl (by kernel_rfl) Try.func10 (by kernel_rfl)
    (of_decide_eq_true (by kernel_rfl)) (by unfold Func.isWrapper; first | (rw [if_pos (by decide +kernel)]; kernel_rfl) | (rw [if_neg (by decide +kernel)]; exact ⟨rfl, rfl⟩))
    (fun os started H enc _ => lifted os started H enc)

theorem proved : Rows.FnExactCompareStringsSaid := over
end Go.Proofs.Ytgogocodhilfnaa.fnExactCompareStrings
