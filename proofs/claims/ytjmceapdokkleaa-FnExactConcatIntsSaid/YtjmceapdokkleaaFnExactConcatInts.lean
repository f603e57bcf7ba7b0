/-
  ConcatInts, for every list of lists, returns what the reference returns, leaves its argument as it was, and returns memory of its own; no condition.
-/
import Derived.Test.YtjmceapdokkleaaLift
import Derived.Test.YtjmceapdokkleaaMat
import Derived.Test.YtjmceapdokkleaaLiftRows
namespace Go.Proofs.Ytjmceapdokkleaa.fnExactConcatInts
open Go.ChangeShapes Go.WideShapes Go.ChangeAt Go.RowKit
set_option linter.unusedVariables false

theorem le_tot {ps : List Pt} {p : Pt} (h : p ∈ ps) : p.n ≤ tot ps := by
  obtain ⟨k, hk⟩ := List.mem_iff_getElem?.1 h
  have := tot_le ps k p hk
  omega

set_option maxHeartbeats 2000000 in
set_option maxRecDepth 100000 in
theorem walk (A0 : Option Addr) (n0 c0 : Nat) (qs0 : List Pt) (w : World) (h0 : Sees w A0 n0 1 (qv qs0)) (ha0 : All w qs0) (hm0 : ∀ p ∈ qs0, p.n ≤ 9223372036854775807) (hc0 : n0 ≤ c0) (hn0 : n0 ≤ 5864062014634) :
    Calls Try.prog 4 #[.slice A0 n0 c0] w fun e w' => e = .returned (.bool true) ∧ Below w.heap.size w w' := by
  have HA0 := hide ha0
  have HMX := hide hm0
  clear hm0 ha0
  go_enter Try.func4, Try.ntmps4
  go_wp2_with fail
  refine (szIntSS_any A0 n0 c0 qs0 _ h0 HMX.out (by omega)).mono ?_
  rintro e w' ⟨r, rfl, rfl, hr⟩
  by_cases hneg : r < 0
  · go_wp2_with fail
    go_ret
    exact ⟨rfl, Below.refl _ _⟩
  have hb := hr.out (by omega)
  have b0 : Below w.heap.size w w := Below.refl _ _
  obtain ⟨T, hT⟩ : ∃ T, tot qs0 = T := ⟨_, rfl⟩
  have HT := hide hT
  have htb : T ≤ 1048576 := by omega
  have hnb : n0 ≤ 1048576 := by omega
  clear hr hT
  go_wp2_with fail
  refine (toIntSS_any A0 n0 c0 qs0 _ (h0.below b0) (HA0.out.below b0) (fun p hp => by have := le_tot hp; omega) (by omega)).mono ?_
  rintro e w1 ⟨Aa, ca, qa, rfl, ma, La, d1⟩
  have b1 : Below w.heap.size w w1 := b0.trans (d1.mono b0.size)
  have Ta : Hid (tot qa = tot qs0 ∧ cat qa = cat qs0) := ⟨tot_lists ma.all HA0.out La.out, cat_lists La.out⟩
  clear d1
  go_wp2_with fail
  refine (specConcatInts_any Aa n0 ca qa _ ma.sees ma.all (by rw [Ta.out.1]; omega) (by omega)).mono ?_
  rintro e w2 ⟨Av, cv, rfl, v, d2⟩
  have b2 : Below w.heap.size w w2 := b1.trans (d2.mono b1.size)
  have s12 := b1.size
  have s02 := b2.size
  rw [Ta.out.1, Ta.out.2] at v
  rw [Ta.out.1]
  rw [HT.out] at v ⊢
  clear d2 ma La Ta
  go_wp2_with fail
  refine (toIntSS_any A0 n0 c0 qs0 _ (h0.below b2) (HA0.out.below b2) (fun p hp => by have := le_tot hp; omega) (by omega)).mono ?_
  rintro e w3 ⟨Ax, cx, qx, rfl, mx, Lx, d3⟩
  have b3 : Below w.heap.size w w3 := b2.trans (d3.mono b2.size)
  have Tx : Hid (tot qx = tot qs0 ∧ cat qx = cat qs0) := ⟨tot_lists mx.all HA0.out Lx.out, cat_lists Lx.out⟩
  replace v := v.next d3
  have s23 : w2.heap.size ≤ w3.heap.size := d3.size
  clear d3
  go_wp2_with fail
  refine (ConcatInts_any Ax n0 cx qx _ mx.sees mx.all (by rw [Tx.out.1]; omega) (by omega)).mono ?_
  rintro e w4 ⟨Ag, cg, rfl, g, d4⟩
  have b4 : Below w.heap.size w w4 := b3.trans (d4.mono b3.size)
  rw [Tx.out.1, Tx.out.2] at g
  rw [Tx.out.1]
  rw [HT.out] at g ⊢
  replace v := v.next d4
  replace mx := mx.next d4
  have s3 := b3.size
  clear d4
  go_wp2_with fail
  refine (eqIntS_b Ag Av T T cg cv (cat qs0) (cat qs0) _ g.sees v.sees (by omega) (by omega)).mono ?_
  rintro e w5 ⟨rfl, d5⟩
  rw [decide_eq_true rfl]
  have b5 : Below w.heap.size w w5 := b4.trans (d5.mono b4.size)
  replace v := v.next d5
  replace g := g.next d5
  replace mx := mx.next d5
  clear d5
  go_wp2_with fail
  refine (toIntSS_any A0 n0 c0 qs0 _ (h0.below b5) (HA0.out.below b5) (fun p hp => by have := le_tot hp; omega) (by omega)).mono ?_
  rintro e w6 ⟨Ay, cy, qy, rfl, my, Ly, d6⟩
  have b6 : Below w.heap.size w w6 := b5.trans (d6.mono b5.size)
  have Ty : Hid (tot qy = tot qs0 ∧ cat qy = cat qs0) := ⟨tot_lists my.all HA0.out Ly.out, cat_lists Ly.out⟩
  replace v := v.next d6
  replace g := g.next d6
  replace mx := mx.next d6
  clear d6
  go_wp2_with fail
  refine (eqIntSS_any Ax Ay n0 n0 cx cy qx qy _ mx.sees mx.all my.sees my.all (fun p hp => by have := le_tot hp; have := Tx.out.1; have := HT.out; omega) (fun p hp => by have := le_tot hp; have := Ty.out.1; have := HT.out; omega) (by omega) (by omega) (Lx.out.trans Ly.out.symm)).mono ?_
  rintro e w7 ⟨rfl, d7⟩
  have b7 : Below w.heap.size w w7 := b6.trans (d7.mono b6.size)
  replace v := v.next d7
  replace g := g.next d7
  replace mx := mx.next d7
  clear d7 my Ly Ty
  go_wp2_with fail
  refine (markIntSS_any Ax _ _ n0 cx qx _ mx (by omega) (by rw [Tx.out.1, HT.out]; omega)).mono ?_
  rintro e w8 ⟨rfl, mx8, o8⟩
  rw [Tx.out.1, HT.out]
  have b8 : Below w.heap.size w w8 := b7.trans (o8.below (by omega) (by have := b7.size; omega))
  replace v := v.only o8 (.inl (Nat.le_refl _))
  replace g := g.only o8 (.inr (Nat.le_refl _))
  have t1 : ¬ (1 + (T : Int) < 0) := by omega
  clear o8 mx mx8
  go_wp2_with fail
  refine (eqIntS_b Ag Av T T cg cv (cat qs0) (cat qs0) _ g.sees v.sees (by omega) (by omega)).mono ?_
  rintro e w9 ⟨rfl, d9⟩
  rw [decide_eq_true rfl]
  have b9 : Below w.heap.size w w9 := b8.trans (d9.mono b8.size)
  replace v := v.next d9
  replace g := g.next d9
  clear d9
  go_wp2_with fail
  refine (markIntS_any Ag _ _ T cg 1 (cat qs0) _ g (by omega) (by omega) (by omega)).mono ?_
  rintro e w10 ⟨rfl, g10, o10⟩
  have b10 : Below w.heap.size w w10 := b9.trans (o10.below (by omega) (by have := b9.size; omega))
  replace v := v.only o10 (.inl (by omega))
  clear o10 g
  go_wp2_with fail
  refine (heldIntS_any Ag T cg 1 _ g10.sees (by omega) (by omega) (by omega)).mono ?_
  rintro e w' ⟨rfl, rfl⟩
  have t2 : (1 + (T : Int) != 1 + (T : Int)) = false := by simp
  go_wp2_with fail
  refine (toIntSS_any A0 n0 c0 qs0 _ (h0.below b10) (HA0.out.below b10) (fun p hp => by have := le_tot hp; omega) (by omega)).mono ?_
  rintro e w11 ⟨Az, cz, qz, rfl, mz, Lz, d11⟩
  have b11 : Below w.heap.size w w11 := b10.trans (d11.mono b10.size)
  have Tz : Hid (tot qz = tot qs0 ∧ cat qz = cat qs0) := ⟨tot_lists mz.all HA0.out Lz.out, cat_lists Lz.out⟩
  replace v := v.next d11
  replace g10 := g10.next d11
  clear d11
  go_wp2_with fail
  refine (ConcatInts_any Az n0 cz qz _ mz.sees mz.all (by rw [Tz.out.1]; omega) (by omega)).mono ?_
  rintro e w12 ⟨Ah, ch, rfl, h, d12⟩
  have b12 : Below w.heap.size w w12 := b11.trans (d12.mono b11.size)
  rw [Tz.out.1, Tz.out.2] at h
  rw [Tz.out.1]
  rw [HT.out] at h ⊢
  replace v := v.next d12
  replace g10 := g10.next d12
  clear d12 mz
  go_wp2_with fail
  refine (eqIntS_b Ah Av T T ch cv (cat qs0) (cat qs0) _ h.sees v.sees (by omega) (by omega)).mono ?_
  rintro e w13 ⟨rfl, d13⟩
  rw [decide_eq_true rfl]
  have b13 : Below w.heap.size w w13 := b12.trans (d13.mono b12.size)
  replace g10 := g10.next d13
  clear d13
  go_wp2_with fail
  refine (heldIntS_any Ag T cg 1 _ g10.sees (by omega) (by omega) (by omega)).mono ?_
  rintro e w' ⟨rfl, rfl⟩
  go_wp2_with fail
  go_ret
  exact ⟨rfl, b13⟩

set_option maxRecDepth 100000 in
theorem lifted (os : Os) (started : os.Started) (H : Type) (enc : TypeId × Value → H) :
    ReturnsInHanded {} Try.checked os 4 .any (Rows.fnExactConcatIntsSpec.pre6 enc Try.prog Try.f4 Rows.fnExactConcatIntsRow.domain false) (Rows.fnExactConcatIntsSpec.post enc Try.prog Try.f4 false true false false) := by
  refine returnsInHanded_of_change_sized (C := Try.checked) ownKnob_none started (by kernel_rfl) Try.func4
    (ChangeSpec.witness6 (enc := enc) (C := Try.checked) false ⟨#[], #[.slice none 0 0], []⟩ 8 (by kernel_rfl) (by kernel_rfl) (by kernel_rfl) (by kernel_rfl)) ?_
  intro W base args ds gs before hval0 hW hcnd hsz0 _
  have hsz : (DataW.weightsEach Try.prog (Try.f4.params.toList ++ Rows.fnExactConcatIntsSpec.plain.varTypes Try.prog) (ds ++ gs)).all (· ≤ reachBytes) = true := hsz0
  have hval : ∀ (j : Nat) t v, Try.f4.params[j]? = some t → args[j]? = some v → Value.okWide Try.prog W .any base t v := hval0
  have hW' := hW
  obtain ⟨p, q, hA0, hV, rfl, hfz, hnd⟩ := hW
  have hA : DataW.TrodAll enc Try.prog W 0 (fun _ => true) true Try.f4.params.toList args.toList ds p := hA0
  rw [Try.params4] at hA hval hsz
  obtain ⟨v0, vs0, d0, ds0, p0, q0, hargs, rfl, rfl, h0, r0⟩ := trodAll_cons hA
  obtain ⟨rfl, rfl, rfl⟩ := trodAll_nil r0
  obtain rfl : args = #[v0] := by cases args; simp_all
  obtain ⟨rfl, rfl⟩ := trodVars_none hV
  have k0 := h0
  have lt0 : ∀ x ∈ p0, x.block < W.heap.size := by obtain ⟨m, hm⟩ := k0; exact DataW.trod_lt m _ _ _ hm
  obtain ⟨A0, n0, c0, qs0, rfl, s0, a0a, m0m, c0c, z0⟩ := arg_intss (hval 0 22 v0 rfl rfl) h0
  clear hA0 hval0 hsz0
  refine (walk A0 n0 c0 qs0 W s0 a0a m0m c0c (z0 (weights_arg hsz 0 rfl rfl))).mono fun e W' ⟨he, bel⟩ => ?_
  subst he
  exact ⟨_, rfl, _, _, _, [], _, [], hW', trodAll_mk1 (shut_bool Try.underlying4 _), (trodAll_cons_mk (Below.trod laidOut (by kernel_rfl) (of_decide_eq_true (by kernel_rfl)) k0 bel lt0) trodAll_mk0), rfl, bel.frame _, fun h => by cases h⟩

theorem over : Rows.fnExactConcatIntsRow.holds Try.pinned (OpenSpec.ofChange Rows.fnExactConcatIntsSpec) :=
  OpenClaim.holds_of_wide 4 Try.f4 rfl rfl rfl rfl rfl rfl rfl ⟨rfl, rfl, rfl, rfl, rfl⟩ rfl rfl rfl rfl rfl (by kernel_rfl) Try.func4 (by kernel_rfl)
    (of_decide_eq_true (by kernel_rfl)) (by unfold Func.isWrapper; first | (rw [if_pos (by decide +kernel)]; kernel_rfl) | (rw [if_neg (by decide +kernel)]; exact ⟨rfl, rfl⟩))
    (fun os started H enc _ => lifted os started H enc)

theorem proved : Rows.FnExactConcatIntsSaid := over
end Go.Proofs.Ytjmceapdokkleaa.fnExactConcatInts
