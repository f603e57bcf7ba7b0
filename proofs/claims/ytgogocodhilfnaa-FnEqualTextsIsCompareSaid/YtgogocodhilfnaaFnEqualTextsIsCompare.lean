/-
  The same for strings: slices.Equal is true exactly if slices.Compare is 0, both ways round; no condition.
-/
import Derived.Test.YtgogocodhilfnaaLift
import Derived.Test.YtgogocodhilfnaaCmpStrs
import Derived.Test.YtgogocodhilfnaaLiftStrs
namespace Go.Proofs.Ytgogocodhilfnaa.fnEqualTextsIsCompare
open Go.ChangeShapes Go.WideShapes Go.ChangeAt Go.RowKit
set_option linter.unusedVariables false

set_option maxHeartbeats 1000000 in
theorem walk (A0 : Option Addr) (n0 c0 : Nat) (ss0 : List ByteArray) (A1 : Option Addr) (n1 c1 : Nat) (ss1 : List ByteArray) (w : World) (h0 : Sees w A0 n0 1 (sv ss0)) (hc0 : n0 ≤ c0) (hw0 : ∀ x ∈ ss0, x.size ≤ maxLen) (hn0 : n0 ≤ 8796093021952) (h1 : Sees w A1 n1 1 (sv ss1)) (hc1 : n1 ≤ c1) (hw1 : ∀ x ∈ ss1, x.size ≤ maxLen) (hn1 : n1 ≤ 8796093021952) :
    Calls Try.prog 12 #[.slice A0 n0 c0, .slice A1 n1 c1] w fun e w' => e = .returned (.bool true) ∧ Below w.heap.size w w' := by
  clear hw0 hw1
  have zz : ∀ l : List ByteArray, cmpT l l = 0 := fun l => (cmpBy_zero (fun _ _ => cmpS_zero) l l).2 rfl
  have Z := hide zz
  clear zz
  by_cases he : ss0 = ss1
  · subst he
    go_enter Try.func12, Try.ntmps12
    go_wp2_with fail
    refine (CompareStrings_any A0 A1 n0 n1 c0 c1 ss0 ss0 _ h0 h1 (by omega) (by omega)).mono ?_
    rintro e w' ⟨rfl, rfl⟩
    rw [Z.out ss0]
    go_wp2_with fail
    refine (quiet_b (EqualStrings_any A0 A1 n0 n1 c0 c1 ss0 ss0 _ h0 h1 (by omega) (by omega))).mono ?_
    rintro e w1 ⟨rfl, d1⟩
    have b1 : Below w.heap.size w w1 := (Below.refl w.heap.size w).trans (d1.mono (Below.refl w.heap.size w).size)
    have s1 : w.heap.size ≤ w1.heap.size := d1.size
    clear d1
    rw [decide_eq_true rfl]
    go_wp2_with fail
    refine (quiet_b (EqualStrings_any A1 A0 n1 n0 c1 c0 ss0 ss0 _ (h1.below b1) (h0.below b1) (by omega) (by omega))).mono ?_
    rintro e w2 ⟨rfl, d2⟩
    have b2 : Below w.heap.size w w2 := b1.trans (d2.mono b1.size)
    have s2 : w1.heap.size ≤ w2.heap.size := d2.size
    clear d2
    rw [decide_eq_true rfl]
    go_wp2_with fail
    refine (CompareStrings_any A1 A0 n1 n0 c1 c0 ss0 ss0 _ (h1.below b2) (h0.below b2) (by omega) (by omega)).mono ?_
    rintro e w' ⟨rfl, rfl⟩
    rw [Z.out ss0]
    go_wp2_with fail
    refine (quiet_b (EqualStrings_any A0 A0 n0 n0 c0 c0 ss0 ss0 _ (h0.below b2) (h0.below b2) (by omega) (by omega))).mono ?_
    rintro e w3 ⟨rfl, d3⟩
    have b3 : Below w.heap.size w w3 := b2.trans (d3.mono b2.size)
    have s3 : w2.heap.size ≤ w3.heap.size := d3.size
    clear d3
    rw [decide_eq_true rfl]
    go_wp2_with fail
    go_ret
    exact ⟨rfl, b3⟩
  · obtain ⟨c, hc⟩ : ∃ c, cmpT ss0 ss1 = c := ⟨_, rfl⟩
    have hpm : c = -1 ∨ c = 0 ∨ c = 1 := hc ▸ cmpBy_pm cmpS_pm ss0 ss1
    have hc0 : ¬ c = 0 := fun h => he ((cmpBy_zero (fun _ _ => cmpS_zero) ss0 ss1).1 (hc.trans h))
    have e1 : (c == 0) = false := by simp [hc0]
    have e2 : (-c == -c) = true := by simp
    have l1 : -1 ≤ c := by omega
    have l2 : c ≤ 1 := by omega
    have hcn : cmpT ss1 ss0 = -c := hc ▸ cmpBy_neg cmpS_neg ss0 ss1
    have HC := hide hc
    have HN := hide hcn
    have HE := hide he
    have HF : Hid (¬ ss1 = ss0) := fun h => he h.symm
    clear hc hcn he hc0 hpm
    go_enter Try.func12, Try.ntmps12
    go_wp2_with fail
    refine (CompareStrings_any A0 A1 n0 n1 c0 c1 ss0 ss1 _ h0 h1 (by omega) (by omega)).mono ?_
    rintro e w' ⟨rfl, rfl⟩
    rw [HC.out]
    go_wp2_with fail
    refine (quiet_b (EqualStrings_any A0 A1 n0 n1 c0 c1 ss0 ss1 _ h0 h1 (by omega) (by omega))).mono ?_
    rintro e w1 ⟨rfl, d1⟩
    have b1 : Below w.heap.size w w1 := (Below.refl w.heap.size w).trans (d1.mono (Below.refl w.heap.size w).size)
    have s1 : w.heap.size ≤ w1.heap.size := d1.size
    clear d1
    rw [decide_eq_false HE.out]
    go_wp2_with fail
    refine (quiet_b (EqualStrings_any A1 A0 n1 n0 c1 c0 ss1 ss0 _ (h1.below b1) (h0.below b1) (by omega) (by omega))).mono ?_
    rintro e w2 ⟨rfl, d2⟩
    have b2 : Below w.heap.size w w2 := b1.trans (d2.mono b1.size)
    have s2 : w1.heap.size ≤ w2.heap.size := d2.size
    clear d2
    rw [decide_eq_false HF.out]
    go_wp2_with fail
    refine (CompareStrings_any A1 A0 n1 n0 c1 c0 ss1 ss0 _ (h1.below b2) (h0.below b2) (by omega) (by omega)).mono ?_
    rintro e w' ⟨rfl, rfl⟩
    rw [HN.out]
    go_wp2_with fail
    refine (quiet_b (EqualStrings_any A0 A0 n0 n0 c0 c0 ss0 ss0 _ (h0.below b2) (h0.below b2) (by omega) (by omega))).mono ?_
    rintro e w3 ⟨rfl, d3⟩
    have b3 : Below w.heap.size w w3 := b2.trans (d3.mono b2.size)
    have s3 : w2.heap.size ≤ w3.heap.size := d3.size
    clear d3
    rw [decide_eq_true rfl]
    go_wp2_with fail
    go_ret
    exact ⟨rfl, b3⟩

set_option maxRecDepth 100000 in
theorem lifted (os : Os) (started : os.Started) (H : Type) (enc : TypeId × Value → H) :
    ReturnsInHanded {} Try.checked os 12 .any (Rows.fnEqualTextsIsCompareSpec.pre6 enc Try.prog Try.f12 Rows.fnEqualTextsIsCompareRow.domain false) (Rows.fnEqualTextsIsCompareSpec.post enc Try.prog Try.f12 false true false false) := by
  refine returnsInHanded_of_change_sized (C := Try.checked) ownKnob_none started (by kernel_rfl) Try.func12
    (ChangeSpec.witness6 (enc := enc) (C := Try.checked) false ⟨#[], #[.slice none 0 0, .slice none 0 0], []⟩ 8 (by kernel_rfl) (by kernel_rfl) (by kernel_rfl) (by kernel_rfl)) ?_
  intro W base args ds gs before hval0 hW hcnd hsz0 _
  have hsz : (DataW.weightsEach Try.prog (Try.f12.params.toList ++ Rows.fnEqualTextsIsCompareSpec.plain.varTypes Try.prog) (ds ++ gs)).all (· ≤ reachBytes) = true := hsz0
  have hval : ∀ (j : Nat) t v, Try.f12.params[j]? = some t → args[j]? = some v → Value.okWide Try.prog W .any base t v := hval0
  have hW' := hW
  obtain ⟨p, q, hA0, hV, rfl, hfz, hnd⟩ := hW
  have hA : DataW.TrodAll enc Try.prog W 0 (fun _ => true) true Try.f12.params.toList args.toList ds p := hA0
  rw [Try.params12] at hA hval hsz
  obtain ⟨v0, vs0, d0, ds0, p0, q0, hargs, rfl, rfl, h0, r0⟩ := trodAll_cons hA
  obtain ⟨v1, vs1, d1, ds1, p1, q1, rfl, rfl, rfl, h1, r1⟩ := trodAll_cons r0
  obtain ⟨rfl, rfl, rfl⟩ := trodAll_nil r1
  obtain rfl : args = #[v0, v1] := by cases args; simp_all
  obtain ⟨rfl, rfl⟩ := trodVars_none hV
  have k0 := h0
  have lt0 : ∀ x ∈ p0, x.block < W.heap.size := by obtain ⟨m, hm⟩ := k0; exact DataW.trod_lt m _ _ _ hm
  obtain ⟨A0, n0, c0, ss0, rfl, s0, c0c, _, w0, z0⟩ := arg_strs (hval 0 25 v0 rfl rfl) h0
  have k1 := h1
  have lt1 : ∀ x ∈ p1, x.block < W.heap.size := by obtain ⟨m, hm⟩ := k1; exact DataW.trod_lt m _ _ _ hm
  obtain ⟨A1, n1, c1, ss1, rfl, s1, c1c, _, w1, z1⟩ := arg_strs (hval 1 25 v1 rfl rfl) h1
  clear hA0 hval0 hsz0
  refine (walk A0 n0 c0 ss0 A1 n1 c1 ss1 W s0 c0c w0 (z0 (weights_arg hsz 0 rfl rfl)) s1 c1c w1 (z1 (weights_arg hsz 1 rfl rfl))).mono fun e W' ⟨he, bel⟩ => ?_
  subst he
  exact ⟨_, rfl, _, _, _, [], _, [], hW', trodAll_mk1 (shut_bool Try.underlying4 _), (trodAll_cons_mk (Below.trod laidOut (by kernel_rfl) (of_decide_eq_true (by kernel_rfl)) k0 bel lt0) (trodAll_cons_mk (Below.trod laidOut (by kernel_rfl) (of_decide_eq_true (by kernel_rfl)) k1 bel lt1) trodAll_mk0)), rfl, bel.frame _, fun h => by cases h⟩

theorem over : Rows.fnEqualTextsIsCompareRow.holds Try.pinned (OpenSpec.ofChange Rows.fnEqualTextsIsCompareSpec) :=
  OpenClaim.holds_of_wide 12 Try.f12 rfl rfl rfl rfl rfl rfl rfl ⟨rfl, rfl, rfl, rfl, rfl⟩ rfl rfl rfl rfl rfl (by kernel_rfl) Try.func12 (by kernel_rfl)
    (of_decide_eq_true (by kernel_rfl)) (by unfold Func.isWrapper; first | (rw [if_pos (by decide +kernel)]; kernel_rfl) | (rw [if_neg (by decide +kernel)]; exact ⟨rfl, rfl⟩))
    (fun os started H enc _ => lifted os started H enc)

theorem proved : Rows.FnEqualTextsIsCompareSaid := over
end Go.Proofs.Ytgogocodhilfnaa.fnEqualTextsIsCompare
