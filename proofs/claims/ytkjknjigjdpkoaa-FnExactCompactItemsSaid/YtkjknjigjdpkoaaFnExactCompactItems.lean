/-
  CompactItems, for every list, returns what the reference returns, leaves its argument as it was, and returns memory of its own; no condition.
-/
import Derived.Test.YtkjknjigjdpkoaaLift
import Derived.Test.YtkjknjigjdpkoaaCompactIW
import Derived.Test.YtkjknjigjdpkoaaLiftPairs
namespace Go.Proofs.Ytkjknjigjdpkoaa.fnExactCompactItems
open Go.ChangeShapes Go.WideShapes Go.ChangeAt Go.RowKit
set_option linter.unusedVariables false

set_option maxHeartbeats 2000000 in
set_option maxRecDepth 100000 in
theorem walk (A0 : Option Addr) (n0 c0 : Nat) (ps0 : List (Int × Int)) (w : World) (h0 : Sees w A0 n0 2 (pv ps0)) (hc0 : n0 ≤ c0) (hw0 : ∀ x ∈ ps0, (Lit.int .i64 x.1).wf = true ∧ (Lit.int .i64 x.2).wf = true) (hn0 : n0 ≤ 8796093021952) :
    Calls Try.prog 13 #[.slice A0 n0 c0] w fun e w' => e = .returned (.bool true) ∧ Below w.heap.size w w' := by
  by_cases hbig : 1048576 < n0
  · go_enter Try.func13, Try.ntmps13
    go_wp2_with fail
    refine (szItemS_big A0 n0 c0 (1048576) _ (by omega) (by omega) (by omega) (by omega)).mono ?_
    rintro e w' ⟨rfl, rfl⟩
    go_wp2_with fail
    go_ret
    exact ⟨rfl, Below.refl _ _⟩
  · obtain ⟨t, ht⟩ : ∃ t, (cptP ps0).length = t := ⟨_, rfl⟩
    have hts : t ≤ n0 := by rw [← ht, ← h0.plen]; exact cpt_len
    have HT := hide ht
    clear ht
    go_enter Try.func13, Try.ntmps13
    go_wp2_with fail
    refine (szItemS_ok A0 n0 c0 1048576 _ (by omega) (by omega)).mono ?_
    rintro e w' ⟨rfl, rfl⟩
    have t1 : ¬ ((1048576 : Int) - (n0 : Int) < 0) := by omega
    go_wp2_with fail
    refine (toItemS_any A0 n0 c0 ps0 _ h0 (by omega)).mono ?_
    rintro e w1 ⟨Aa, ca, rfl, a, d1⟩
    have b1 : Below w.heap.size w w1 := (Below.refl w.heap.size w).trans (d1.mono (Below.refl w.heap.size w).size)
    have s1 : w.heap.size ≤ w1.heap.size := d1.size
    clear d1
    go_wp2_with fail
    refine (specCompactItems_any Aa n0 ca ps0 _ a.sees (by omega)).mono ?_
    rintro e w2 ⟨Av, cv, rfl, v, d2⟩
    have b2 : Below w.heap.size w w2 := b1.trans (d2.mono b1.size)
    have s2 : w1.heap.size ≤ w2.heap.size := d2.size
    replace a := a.next d2
    clear d2
    rw [HT.out] at v ⊢
    go_wp2_with fail
    refine (toItemS_any A0 n0 c0 ps0 _ (h0.below b2) (by omega)).mono ?_
    rintro e w3 ⟨Ax, cx, rfl, x, d3⟩
    have b3 : Below w.heap.size w w3 := b2.trans (d3.mono b2.size)
    have s3 : w2.heap.size ≤ w3.heap.size := d3.size
    replace a := a.next d3
    replace v := v.next d3
    clear d3
    go_wp2_with fail
    refine (CompactItems_any Ax n0 cx ps0 _ x.sees (by omega)).mono ?_
    rintro e w4 ⟨Ag, cg, rfl, g, d4⟩
    have b4 : Below w.heap.size w w4 := b3.trans (d4.mono b3.size)
    have s4 : w3.heap.size ≤ w4.heap.size := d4.size
    replace a := a.next d4
    replace v := v.next d4
    replace x := x.next d4
    clear d4
    rw [HT.out] at g ⊢
    go_wp2_with fail
    refine (eqItemS_any Ag Av t t cg cv (cptP ps0) (cptP ps0) _ g.sees v.sees (by omega) (by omega)).mono ?_
    rintro e w5 ⟨rfl, d5⟩
    have b5 : Below w.heap.size w w5 := b4.trans (d5.mono b4.size)
    have s5 : w4.heap.size ≤ w5.heap.size := d5.size
    replace a := a.next d5
    replace v := v.next d5
    replace x := x.next d5
    replace g := g.next d5
    clear d5
    rw [decide_eq_true rfl]
    go_wp2_with fail
    refine (toItemS_any A0 n0 c0 ps0 _ (h0.below b5) (by omega)).mono ?_
    rintro e w6 ⟨Ay, cy, rfl, y, d6⟩
    have b6 : Below w.heap.size w w6 := b5.trans (d6.mono b5.size)
    have s6 : w5.heap.size ≤ w6.heap.size := d6.size
    replace a := a.next d6
    replace v := v.next d6
    replace x := x.next d6
    replace g := g.next d6
    clear d6
    go_wp2_with fail
    refine (eqItemS_any Ax Ay n0 n0 cx cy ps0 ps0 _ x.sees y.sees (by omega) (by omega)).mono ?_
    rintro e w7 ⟨rfl, d7⟩
    have b7 : Below w.heap.size w w7 := b6.trans (d7.mono b6.size)
    have s7 : w6.heap.size ≤ w7.heap.size := d7.size
    replace a := a.next d7
    replace v := v.next d7
    replace x := x.next d7
    replace g := g.next d7
    replace y := y.next d7
    clear d7
    rw [decide_eq_true rfl]
    go_wp2_with fail
    refine (markItemS_any Ax _ _ n0 cx 1 ps0 _ x (by omega) (by omega) (by omega)).mono ?_
    clear x
    rintro e w8 ⟨rfl, x, d8⟩
    have b8 : Below w.heap.size w w8 := b7.trans (d8.below (by omega) (by omega))
    have s8 : w7.heap.size ≤ w8.heap.size := d8.size
    replace a := a.only d8 (by omega)
    replace v := v.only d8 (by omega)
    replace g := g.only d8 (by omega)
    replace y := y.only d8 (by omega)
    clear d8
    have t3 : ¬ (1 + 2 * (n0 : Int) < 0) := by omega
    go_wp2_with fail
    refine (eqItemS_any Ag Av t t cg cv (cptP ps0) (cptP ps0) _ g.sees v.sees (by omega) (by omega)).mono ?_
    rintro e w9 ⟨rfl, d9⟩
    have b9 : Below w.heap.size w w9 := b8.trans (d9.mono b8.size)
    have s9 : w8.heap.size ≤ w9.heap.size := d9.size
    replace a := a.next d9
    replace v := v.next d9
    replace x := x.next d9
    replace g := g.next d9
    replace y := y.next d9
    clear d9
    rw [decide_eq_true rfl]
    go_wp2_with fail
    refine (markItemS_any Ag _ _ t cg 1 (cptP ps0) _ g (by omega) (by omega) (by omega)).mono ?_
    clear g
    rintro e w10 ⟨rfl, g, d10⟩
    have b10 : Below w.heap.size w w10 := b9.trans (d10.below (by omega) (by omega))
    have s10 : w9.heap.size ≤ w10.heap.size := d10.size
    replace a := a.only d10 (by omega)
    replace v := v.only d10 (by omega)
    replace x := x.only d10 (by omega)
    replace y := y.only d10 (by omega)
    clear d10
    go_wp2_with fail
    refine (heldItemS_any Ag t cg 1 _ g.sees (by omega) (by omega) (by omega)).mono ?_
    rintro e w' ⟨rfl, rfl⟩
    have t2 : (1 + 2 * (t : Int) != 1 + 2 * (t : Int)) = false := by simp
    go_wp2_with fail
    refine (toItemS_any A0 n0 c0 ps0 _ (h0.below b10) (by omega)).mono ?_
    rintro e w11 ⟨Az, cz, rfl, z, d11⟩
    have b11 : Below w.heap.size w w11 := b10.trans (d11.mono b10.size)
    have s11 : w10.heap.size ≤ w11.heap.size := d11.size
    replace a := a.next d11
    replace v := v.next d11
    replace x := x.next d11
    replace g := g.next d11
    replace y := y.next d11
    clear d11
    go_wp2_with fail
    refine (CompactItems_any Az n0 cz ps0 _ z.sees (by omega)).mono ?_
    rintro e w12 ⟨Ah, ch, rfl, h, d12⟩
    have b12 : Below w.heap.size w w12 := b11.trans (d12.mono b11.size)
    have s12 : w11.heap.size ≤ w12.heap.size := d12.size
    replace a := a.next d12
    replace v := v.next d12
    replace x := x.next d12
    replace g := g.next d12
    replace y := y.next d12
    replace z := z.next d12
    clear d12
    rw [HT.out] at h ⊢
    go_wp2_with fail
    refine (eqItemS_any Ah Av t t ch cv (cptP ps0) (cptP ps0) _ h.sees v.sees (by omega) (by omega)).mono ?_
    rintro e w13 ⟨rfl, d13⟩
    have b13 : Below w.heap.size w w13 := b12.trans (d13.mono b12.size)
    have s13 : w12.heap.size ≤ w13.heap.size := d13.size
    replace a := a.next d13
    replace v := v.next d13
    replace x := x.next d13
    replace g := g.next d13
    replace y := y.next d13
    replace z := z.next d13
    replace h := h.next d13
    clear d13
    rw [decide_eq_true rfl]
    go_wp2_with fail
    refine (heldItemS_any Ag t cg 1 _ g.sees (by omega) (by omega) (by omega)).mono ?_
    rintro e w' ⟨rfl, rfl⟩
    go_wp2_with fail
    go_ret
    exact ⟨rfl, b13⟩

set_option maxRecDepth 100000 in
theorem lifted (os : Os) (started : os.Started) (H : Type) (enc : TypeId × Value → H) :
    ReturnsInHanded {} Try.checked os 13 .any (Rows.fnExactCompactItemsSpec.pre6 enc Try.prog Try.f13 Rows.fnExactCompactItemsRow.domain false) (Rows.fnExactCompactItemsSpec.post enc Try.prog Try.f13 false true false false) := by
  refine returnsInHanded_of_change_sized (C := Try.checked) ownKnob_none started (by kernel_rfl) Try.func13
    (ChangeSpec.witness6 (enc := enc) (C := Try.checked) false ⟨#[], #[.slice none 0 0], []⟩ 8 (by kernel_rfl) (by kernel_rfl) (by kernel_rfl) (by kernel_rfl)) ?_
  intro W base args ds gs before hval0 hW hcnd hsz0 _
  have hsz : (DataW.weightsEach Try.prog (Try.f13.params.toList ++ Rows.fnExactCompactItemsSpec.plain.varTypes Try.prog) (ds ++ gs)).all (· ≤ reachBytes) = true := hsz0
  have hval : ∀ (j : Nat) t v, Try.f13.params[j]? = some t → args[j]? = some v → Value.okWide Try.prog W .any base t v := hval0
  have hW' := hW
  obtain ⟨p, q, hA0, hV, rfl, hfz, hnd⟩ := hW
  have hA : DataW.TrodAll enc Try.prog W 0 (fun _ => true) true Try.f13.params.toList args.toList ds p := hA0
  rw [Try.params13] at hA hval hsz
  obtain ⟨v0, vs0, d0, ds0, p0, q0, hargs, rfl, rfl, h0, r0⟩ := trodAll_cons hA
  obtain ⟨rfl, rfl, rfl⟩ := trodAll_nil r0
  obtain rfl : args = #[v0] := by cases args; simp_all
  obtain ⟨rfl, rfl⟩ := trodVars_none hV
  have k0 := h0
  have lt0 : ∀ x ∈ p0, x.block < W.heap.size := by obtain ⟨m, hm⟩ := k0; exact DataW.trod_lt m _ _ _ hm
  obtain ⟨A0, n0, c0, ps0, rfl, s0, c0c, _, w0, z0, u0⟩ := arg_Item (hval 0 31 v0 rfl rfl) h0
  clear hA0 hval0 hsz0
  refine (walk A0 n0 c0 ps0 W s0 c0c w0 (z0 (weights_arg hsz 0 rfl rfl))).mono fun e W' ⟨he, bel⟩ => ?_
  subst he
  exact ⟨_, rfl, _, _, _, [], _, [], hW', trodAll_mk1 (shut_bool Try.underlying4 _), (trodAll_cons_mk (Below.trod laidOut (by kernel_rfl) (of_decide_eq_true (by kernel_rfl)) k0 bel lt0) trodAll_mk0), rfl, bel.frame _, fun h => by cases h⟩

theorem over : Rows.fnExactCompactItemsRow.holds Try.pinned (OpenSpec.ofChange Rows.fnExactCompactItemsSpec) :=
  OpenClaim.holds_of_wide 13 Try.f13 rfl rfl rfl rfl rfl rfl rfl ⟨rfl, rfl, rfl, rfl, rfl⟩ rfl rfl rfl rfl rfl (by kernel_rfl) Try.func13 (by kernel_rfl)
    (of_decide_eq_true (by kernel_rfl)) (by unfold Func.isWrapper; first | (rw [if_pos (by decide +kernel)]; kernel_rfl) | (rw [if_neg (by decide +kernel)]; exact ⟨rfl, rfl⟩))
    (fun os started H enc _ => lifted os started H enc)

theorem proved : Rows.FnExactCompactItemsSaid := over
end Go.Proofs.Ytkjknjigjdpkoaa.fnExactCompactItems
