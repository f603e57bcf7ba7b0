/-
  slices.Equal is true exactly if slices.Compare is 0, both ways round; no condition.
-/
import Derived.Test.YtgogocodhilfnaaLift
import Derived.Test.YtgogocodhilfnaaCmp
namespace Go.Proofs.Ytgogocodhilfnaa.fnEqualIsCompare
open Go.ChangeShapes Go.WideShapes Go.ChangeAt Go.RowKit
set_option linter.unusedVariables false

set_option maxHeartbeats 1000000 in
theorem walk (A0 : Option Addr) (n0 c0 : Nat) (xs0 : List Int) (A1 : Option Addr) (n1 c1 : Nat) (xs1 : List Int) (w : World) (h0 : Sees w A0 n0 1 (iv xs0)) (hc0 : n0 ≤ c0) (hw0 : ∀ x ∈ xs0, (Lit.int .i64 x).wf = true) (hn0 : n0 ≤ 17592186043904) (h1 : Sees w A1 n1 1 (iv xs1)) (hc1 : n1 ≤ c1) (hw1 : ∀ x ∈ xs1, (Lit.int .i64 x).wf = true) (hn1 : n1 ≤ 17592186043904) :
    Calls Try.prog 11 #[.slice A0 n0 c0, .slice A1 n1 c1] w fun e w' => e = .returned (.bool true) ∧ Below w.heap.size w w' := by
  have zz : ∀ l : List Int, cmpL l l = 0 := fun l => (cmpBy_zero (fun _ _ => cmpI_zero) l l).2 rfl
  have Z := hide zz
  clear zz
  by_cases he : xs0 = xs1
  · subst he
    go_enter Try.func11, Try.ntmps11
    go_wp2_with fail
    refine (CompareInts_any A0 A1 n0 n1 c0 c1 xs0 xs0 _ h0 h1 (by omega) (by omega)).mono ?_
    rintro e w' ⟨rfl, rfl⟩
    rw [Z.out xs0]
    go_wp2_with fail
    refine (quiet_b (EqualInts_any A0 A1 n0 n1 c0 c1 xs0 xs0 _ h0 h1 (by omega) (by omega))).mono ?_
    rintro e w1 ⟨rfl, d1⟩
    have b1 : Below w.heap.size w w1 := (Below.refl w.heap.size w).trans (d1.mono (Below.refl w.heap.size w).size)
    have s1 : w.heap.size ≤ w1.heap.size := d1.size
    clear d1
    rw [decide_eq_true rfl]
    go_wp2_with fail
    refine (quiet_b (EqualInts_any A1 A0 n1 n0 c1 c0 xs0 xs0 _ (h1.below b1) (h0.below b1) (by omega) (by omega))).mono ?_
    rintro e w2 ⟨rfl, d2⟩
    have b2 : Below w.heap.size w w2 := b1.trans (d2.mono b1.size)
    have s2 : w1.heap.size ≤ w2.heap.size := d2.size
    clear d2
    rw [decide_eq_true rfl]
    go_wp2_with fail
    refine (CompareInts_any A1 A0 n1 n0 c1 c0 xs0 xs0 _ (h1.below b2) (h0.below b2) (by omega) (by omega)).mono ?_
    rintro e w' ⟨rfl, rfl⟩
    rw [Z.out xs0]
    go_wp2_with fail
    refine (quiet_b (EqualInts_any A0 A0 n0 n0 c0 c0 xs0 xs0 _ (h0.below b2) (h0.below b2) (by omega) (by omega))).mono ?_
    rintro e w3 ⟨rfl, d3⟩
    have b3 : Below w.heap.size w w3 := b2.trans (d3.mono b2.size)
    have s3 : w2.heap.size ≤ w3.heap.size := d3.size
    clear d3
    rw [decide_eq_true rfl]
    go_wp2_with fail
    refine (CompareInts_any A0 A0 n0 n0 c0 c0 xs0 xs0 _ (h0.below b3) (h0.below b3) (by omega) (by omega)).mono ?_
    rintro e w' ⟨rfl, rfl⟩
    rw [Z.out xs0]
    go_wp2_with fail
    go_ret
    exact ⟨rfl, b3⟩
  · obtain ⟨c, hc⟩ : ∃ c, cmpL xs0 xs1 = c := ⟨_, rfl⟩
    have hpm : c = -1 ∨ c = 0 ∨ c = 1 := hc ▸ cmpBy_pm cmpI_pm xs0 xs1
    have hc0 : ¬ c = 0 := fun h => he ((cmpBy_zero (fun _ _ => cmpI_zero) xs0 xs1).1 (hc.trans h))
    have e1 : (c == 0) = false := by simp [hc0]
    have e2 : (-c == -c) = true := by simp
    have l1 : -1 ≤ c := by omega
    have l2 : c ≤ 1 := by omega
    have hcn : cmpL xs1 xs0 = -c := hc ▸ cmpBy_neg cmpI_neg xs0 xs1
    have HC := hide hc
    have HN := hide hcn
    have HE := hide he
    have HF : Hid (¬ xs1 = xs0) := fun h => he h.symm
    clear hc hcn he hc0 hpm
    go_enter Try.func11, Try.ntmps11
    go_wp2_with fail
    refine (CompareInts_any A0 A1 n0 n1 c0 c1 xs0 xs1 _ h0 h1 (by omega) (by omega)).mono ?_
    rintro e w' ⟨rfl, rfl⟩
    rw [HC.out]
    go_wp2_with fail
    refine (quiet_b (EqualInts_any A0 A1 n0 n1 c0 c1 xs0 xs1 _ h0 h1 (by omega) (by omega))).mono ?_
    rintro e w1 ⟨rfl, d1⟩
    have b1 : Below w.heap.size w w1 := (Below.refl w.heap.size w).trans (d1.mono (Below.refl w.heap.size w).size)
    have s1 : w.heap.size ≤ w1.heap.size := d1.size
    clear d1
    rw [decide_eq_false HE.out]
    go_wp2_with fail
    refine (quiet_b (EqualInts_any A1 A0 n1 n0 c1 c0 xs1 xs0 _ (h1.below b1) (h0.below b1) (by omega) (by omega))).mono ?_
    rintro e w2 ⟨rfl, d2⟩
    have b2 : Below w.heap.size w w2 := b1.trans (d2.mono b1.size)
    have s2 : w1.heap.size ≤ w2.heap.size := d2.size
    clear d2
    rw [decide_eq_false HF.out]
    go_wp2_with fail
    refine (CompareInts_any A1 A0 n1 n0 c1 c0 xs1 xs0 _ (h1.below b2) (h0.below b2) (by omega) (by omega)).mono ?_
    rintro e w' ⟨rfl, rfl⟩
    rw [HN.out]
    go_wp2_with fail
    refine (quiet_b (EqualInts_any A0 A0 n0 n0 c0 c0 xs0 xs0 _ (h0.below b2) (h0.below b2) (by omega) (by omega))).mono ?_
    rintro e w3 ⟨rfl, d3⟩
    have b3 : Below w.heap.size w w3 := b2.trans (d3.mono b2.size)
    have s3 : w2.heap.size ≤ w3.heap.size := d3.size
    clear d3
    rw [decide_eq_true rfl]
    go_wp2_with fail
    refine (CompareInts_any A0 A0 n0 n0 c0 c0 xs0 xs0 _ (h0.below b3) (h0.below b3) (by omega) (by omega)).mono ?_
    rintro e w' ⟨rfl, rfl⟩
    rw [Z.out xs0]
    go_wp2_with fail
    go_ret
    exact ⟨rfl, b3⟩

set_option maxRecDepth 100000 in
theorem lifted (os : Os) (started : os.Started) (H : Type) (enc : TypeId × Value → H) :
    ReturnsInHanded {} Try.checked os 11 .any (Rows.fnEqualIsCompareSpec.pre6 enc Try.prog Try.f11 Rows.fnEqualIsCompareRow.domain false) (Rows.fnEqualIsCompareSpec.post enc Try.prog Try.f11 false true false false) := by
  refine returnsInHanded_of_change_sized (C := Try.checked) ownKnob_none started (by kernel_rfl) Try.func11
    (ChangeSpec.witness6 (enc := enc) (C := Try.checked) false ⟨#[], #[.slice none 0 0, .slice none 0 0], []⟩ 8 (by kernel_rfl) (by kernel_rfl) (by kernel_rfl) (by kernel_rfl)) ?_
  intro W base args ds gs before hval0 hW hcnd hsz0 _
  have hsz : (DataW.weightsEach Try.prog (Try.f11.params.toList ++ Rows.fnEqualIsCompareSpec.plain.varTypes Try.prog) (ds ++ gs)).all (· ≤ reachBytes) = true := hsz0
  have hval : ∀ (j : Nat) t v, Try.f11.params[j]? = some t → args[j]? = some v → Value.okWide Try.prog W .any base t v := hval0
  have hW' := hW
  obtain ⟨p, q, hA0, hV, rfl, hfz, hnd⟩ := hW
  have hA : DataW.TrodAll enc Try.prog W 0 (fun _ => true) true Try.f11.params.toList args.toList ds p := hA0
  rw [Try.params11] at hA hval hsz
  obtain ⟨v0, vs0, d0, ds0, p0, q0, hargs, rfl, rfl, h0, r0⟩ := trodAll_cons hA
  obtain ⟨v1, vs1, d1, ds1, p1, q1, rfl, rfl, rfl, h1, r1⟩ := trodAll_cons r0
  obtain ⟨rfl, rfl, rfl⟩ := trodAll_nil r1
  obtain rfl : args = #[v0, v1] := by cases args; simp_all
  obtain ⟨rfl, rfl⟩ := trodVars_none hV
  have k0 := h0
  have lt0 : ∀ x ∈ p0, x.block < W.heap.size := by obtain ⟨m, hm⟩ := k0; exact DataW.trod_lt m _ _ _ hm
  obtain ⟨A0, n0, c0, xs0, rfl, s0, c0c, _, w0, z0, u0⟩ := arg_ints (hval 0 22 v0 rfl rfl) h0
  have k1 := h1
  have lt1 : ∀ x ∈ p1, x.block < W.heap.size := by obtain ⟨m, hm⟩ := k1; exact DataW.trod_lt m _ _ _ hm
  obtain ⟨A1, n1, c1, xs1, rfl, s1, c1c, _, w1, z1, u1⟩ := arg_ints (hval 1 22 v1 rfl rfl) h1
  clear hA0 hval0 hsz0
  refine (walk A0 n0 c0 xs0 A1 n1 c1 xs1 W s0 c0c w0 (z0 (weights_arg hsz 0 rfl rfl)) s1 c1c w1 (z1 (weights_arg hsz 1 rfl rfl))).mono fun e W' ⟨he, bel⟩ => ?_
  subst he
  exact ⟨_, rfl, _, _, _, [], _, [], hW', trodAll_mk1 (shut_bool Try.underlying4 _), (trodAll_cons_mk (Below.trod laidOut (by kernel_rfl) (of_decide_eq_true (by kernel_rfl)) k0 bel lt0) (trodAll_cons_mk (Below.trod laidOut (by kernel_rfl) (of_decide_eq_true (by kernel_rfl)) k1 bel lt1) trodAll_mk0)), rfl, bel.frame _, fun h => by cases h⟩

theorem over : Rows.fnEqualIsCompareRow.holds Try.pinned (OpenSpec.ofChange Rows.fnEqualIsCompareSpec) :=
  OpenClaim.holds_of_wide 11 Try.f11 rfl rfl rfl rfl rfl rfl rfl ⟨rfl, rfl, rfl, rfl, rfl⟩ rfl rfl rfl rfl rfl (by kernel_rfl) Try.func11 (by kernel_rfl)
    (of_decide_eq_true (by kernel_rfl)) (by unfold Func.isWrapper; first | (rw [if_pos (by decide +kernel)]; kernel_rfl) | (rw [if_neg (by decide +kernel)]; exact ⟨rfl, rfl⟩))
    (fun os started H enc _ => lifted os started H enc)

theorem proved : Rows.FnEqualIsCompareSaid := over
end Go.Proofs.Ytgogocodhilfnaa.fnEqualIsCompare
