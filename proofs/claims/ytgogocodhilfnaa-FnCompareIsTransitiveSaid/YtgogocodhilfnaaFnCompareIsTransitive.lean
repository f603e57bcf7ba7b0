/-
  Of three lists of which the first is not greater than the second, and this not greater than the third, the first is not greater than the third; no condition.
-/
import Derived.Test.YtgogocodhilfnaaLift
import Derived.Test.YtgogocodhilfnaaCmp
namespace Go.Proofs.Ytgogocodhilfnaa.fnCompareIsTransitive
open Go.ChangeShapes Go.WideShapes Go.ChangeAt Go.RowKit
set_option linter.unusedVariables false

set_option maxHeartbeats 1000000 in
theorem walk (A0 : Option Addr) (n0 c0 : Nat) (xs0 : List Int) (A1 : Option Addr) (n1 c1 : Nat) (xs1 : List Int) (A2 : Option Addr) (n2 c2 : Nat) (xs2 : List Int) (w : World) (h0 : Sees w A0 n0 1 (iv xs0)) (hc0 : n0 ≤ c0) (hw0 : ∀ x ∈ xs0, (Lit.int .i64 x).wf = true) (hn0 : n0 ≤ 17592186043904) (h1 : Sees w A1 n1 1 (iv xs1)) (hc1 : n1 ≤ c1) (hw1 : ∀ x ∈ xs1, (Lit.int .i64 x).wf = true) (hn1 : n1 ≤ 17592186043904) (h2 : Sees w A2 n2 1 (iv xs2)) (hc2 : n2 ≤ c2) (hw2 : ∀ x ∈ xs2, (Lit.int .i64 x).wf = true) (hn2 : n2 ≤ 17592186043904) :
    Calls Try.prog 7 #[.slice A0 n0 c0, .slice A1 n1 c1, .slice A2 n2 c2] w fun e w' => e = .returned (.bool true) ∧ Below w.heap.size w w' := by
  obtain ⟨a, ha⟩ : ∃ a, cmpL xs0 xs1 = a := ⟨_, rfl⟩
  obtain ⟨b, hb⟩ : ∃ b, cmpL xs1 xs2 = b := ⟨_, rfl⟩
  obtain ⟨c, hc⟩ : ∃ c, cmpL xs0 xs2 = c := ⟨_, rfl⟩
  have hpa : a = -1 ∨ a = 0 ∨ a = 1 := ha ▸ cmpBy_pm cmpI_pm xs0 xs1
  have hpb : b = -1 ∨ b = 0 ∨ b = 1 := hb ▸ cmpBy_pm cmpI_pm xs1 xs2
  have hpc : c = -1 ∨ c = 0 ∨ c = 1 := hc ▸ cmpBy_pm cmpI_pm xs0 xs2
  have hza : a = 0 ↔ xs0 = xs1 := ha ▸ cmpBy_zero (fun _ _ => cmpI_zero) xs0 xs1
  have hzb : b = 0 ↔ xs1 = xs2 := hb ▸ cmpBy_zero (fun _ _ => cmpI_zero) xs1 xs2
  have hzc : c = 0 ↔ xs0 = xs2 := hc ▸ cmpBy_zero (fun _ _ => cmpI_zero) xs0 xs2
  have ht : a ≤ 0 → b ≤ 0 → c ≤ 0 := fun g1 g2 => by
    rw [← hc]
    exact cmpBy_trans (fun _ _ => cmpI_zero) cmpI_trans cmpI_neg xs0 xs1 xs2 (by show cmpL xs0 xs1 ≤ 0; rw [ha]; exact g1) (by show cmpL xs1 xs2 ≤ 0; rw [hb]; exact g2)
  have hn : cmpL xs1 xs0 = -a := ha ▸ cmpBy_neg cmpI_neg xs0 xs1
  have hfin : a = 1 ∨ (a ≤ 0 ∧ b = 1) ∨ (a = 0 ∧ b = 0 ∧ c = 0) ∨ (a = -1 ∧ b = 0 ∧ c = -1) ∨ (a = 0 ∧ b = -1 ∧ c = -1) ∨ (a = -1 ∧ b = -1 ∧ c = -1) := by
    rcases hpa with g1 | g1 | g1
    · rcases hpb with g2 | g2 | g2
      · have g3 := ht (by omega) (by omega)
        have g4 : ¬ c = 0 := fun h => by
          have e := hzc.1 h
          subst e
          have hn2 : b = -a := hb ▸ hn
          omega
        omega
      · have e := hzb.1 g2
        subst e
        have : c = a := hc ▸ ha
        omega
      · omega
    · rcases hpb with g2 | g2 | g2
      · have e := hza.1 g1
        subst e
        have : c = b := hc ▸ hb
        omega
      · have e := hza.1 g1
        subst e
        have : c = b := hc ▸ hb
        omega
      · omega
    · omega
  have HA := hide ha
  have HB := hide hb
  have HC := hide hc
  have l0 : -1 ≤ a := by omega
  clear ha hb hc hpa hpb hpc hza hzb hzc ht hn
  have z1 : ∀ W : World, Sees (W.alloc (.cells #[.int .i64 0] 3)) (some ⟨W.heap.size, 0, none⟩) 1 1 (iv [0]) := fun W => (Blk.new W 3 #[.int .i64 0]).sees (pre := []) (post := []) rfl rfl
  have Z1 := hide z1
  clear z1
  rcases hfin with rfl | ⟨g1, rfl⟩ | ⟨rfl, rfl, rfl⟩ | ⟨rfl, rfl, rfl⟩ | ⟨rfl, rfl, rfl⟩ | ⟨rfl, rfl, rfl⟩
  · go_enter Try.func7, Try.ntmps7
    go_wp2_with fail
    refine (CompareInts_any A0 A1 n0 n1 c0 c1 xs0 xs1 _ h0 h1 (by omega) (by omega)).mono ?_
    rintro e w' ⟨rfl, rfl⟩
    rw [HA.out]
    go_wp2_with fail
    refine (CompareInts_any A1 A2 n1 n2 c1 c2 xs1 xs2 _ h1 h2 (by omega) (by omega)).mono ?_
    rintro e w' ⟨rfl, rfl⟩
    rw [HB.out]
    go_wp2_with fail
    refine (CompareInts_any A0 A2 n0 n2 c0 c2 xs0 xs2 _ h0 h2 (by omega) (by omega)).mono ?_
    rintro e w' ⟨rfl, rfl⟩
    rw [HC.out]
    go_wp2_with fail
    refine (CompareInts_any none _ 0 1 0 1 [] [0] _ Sees.nil_ (Z1.out _) (by omega) (by omega)).mono ?_
    rintro e w' ⟨rfl, rfl⟩
    rw [show cmpL [] [0] = -1 from rfl]
    go_wp2_with fail
    go_ret
    exact ⟨rfl, (Below.refl _ _).alloc (Nat.le_refl _) _⟩
  · rcases (show a = -1 ∨ a = 0 by omega) with rfl | rfl
    · go_enter Try.func7, Try.ntmps7
      go_wp2_with fail
      refine (CompareInts_any A0 A1 n0 n1 c0 c1 xs0 xs1 _ h0 h1 (by omega) (by omega)).mono ?_
      rintro e w' ⟨rfl, rfl⟩
      rw [HA.out]
      go_wp2_with fail
      refine (CompareInts_any A1 A2 n1 n2 c1 c2 xs1 xs2 _ h1 h2 (by omega) (by omega)).mono ?_
      rintro e w' ⟨rfl, rfl⟩
      rw [HB.out]
      go_wp2_with fail
      refine (CompareInts_any A0 A2 n0 n2 c0 c2 xs0 xs2 _ h0 h2 (by omega) (by omega)).mono ?_
      rintro e w' ⟨rfl, rfl⟩
      rw [HC.out]
      go_wp2_with fail
      refine (CompareInts_any none _ 0 1 0 1 [] [0] _ Sees.nil_ (Z1.out _) (by omega) (by omega)).mono ?_
      rintro e w' ⟨rfl, rfl⟩
      rw [show cmpL [] [0] = -1 from rfl]
      go_wp2_with fail
      go_ret
      exact ⟨rfl, (Below.refl _ _).alloc (Nat.le_refl _) _⟩
    · go_enter Try.func7, Try.ntmps7
      go_wp2_with fail
      refine (CompareInts_any A0 A1 n0 n1 c0 c1 xs0 xs1 _ h0 h1 (by omega) (by omega)).mono ?_
      rintro e w' ⟨rfl, rfl⟩
      rw [HA.out]
      go_wp2_with fail
      refine (CompareInts_any A1 A2 n1 n2 c1 c2 xs1 xs2 _ h1 h2 (by omega) (by omega)).mono ?_
      rintro e w' ⟨rfl, rfl⟩
      rw [HB.out]
      go_wp2_with fail
      refine (CompareInts_any A0 A2 n0 n2 c0 c2 xs0 xs2 _ h0 h2 (by omega) (by omega)).mono ?_
      rintro e w' ⟨rfl, rfl⟩
      rw [HC.out]
      go_wp2_with fail
      refine (CompareInts_any none _ 0 1 0 1 [] [0] _ Sees.nil_ (Z1.out _) (by omega) (by omega)).mono ?_
      rintro e w' ⟨rfl, rfl⟩
      rw [show cmpL [] [0] = -1 from rfl]
      go_wp2_with fail
      go_ret
      exact ⟨rfl, (Below.refl _ _).alloc (Nat.le_refl _) _⟩
  · go_enter Try.func7, Try.ntmps7
    go_wp2_with fail
    refine (CompareInts_any A0 A1 n0 n1 c0 c1 xs0 xs1 _ h0 h1 (by omega) (by omega)).mono ?_
    rintro e w' ⟨rfl, rfl⟩
    rw [HA.out]
    go_wp2_with fail
    refine (CompareInts_any A1 A2 n1 n2 c1 c2 xs1 xs2 _ h1 h2 (by omega) (by omega)).mono ?_
    rintro e w' ⟨rfl, rfl⟩
    rw [HB.out]
    go_wp2_with fail
    refine (CompareInts_any A0 A2 n0 n2 c0 c2 xs0 xs2 _ h0 h2 (by omega) (by omega)).mono ?_
    rintro e w' ⟨rfl, rfl⟩
    rw [HC.out]
    go_wp2_with fail
    refine (CompareInts_any none _ 0 1 0 1 [] [0] _ Sees.nil_ (Z1.out _) (by omega) (by omega)).mono ?_
    rintro e w' ⟨rfl, rfl⟩
    rw [show cmpL [] [0] = -1 from rfl]
    go_wp2_with fail
    go_ret
    exact ⟨rfl, (Below.refl _ _).alloc (Nat.le_refl _) _⟩
  · go_enter Try.func7, Try.ntmps7
    go_wp2_with fail
    refine (CompareInts_any A0 A1 n0 n1 c0 c1 xs0 xs1 _ h0 h1 (by omega) (by omega)).mono ?_
    rintro e w' ⟨rfl, rfl⟩
    rw [HA.out]
    go_wp2_with fail
    refine (CompareInts_any A1 A2 n1 n2 c1 c2 xs1 xs2 _ h1 h2 (by omega) (by omega)).mono ?_
    rintro e w' ⟨rfl, rfl⟩
    rw [HB.out]
    go_wp2_with fail
    refine (CompareInts_any A0 A2 n0 n2 c0 c2 xs0 xs2 _ h0 h2 (by omega) (by omega)).mono ?_
    rintro e w' ⟨rfl, rfl⟩
    rw [HC.out]
    go_wp2_with fail
    refine (CompareInts_any none _ 0 1 0 1 [] [0] _ Sees.nil_ (Z1.out _) (by omega) (by omega)).mono ?_
    rintro e w' ⟨rfl, rfl⟩
    rw [show cmpL [] [0] = -1 from rfl]
    go_wp2_with fail
    go_ret
    exact ⟨rfl, (Below.refl _ _).alloc (Nat.le_refl _) _⟩
  · go_enter Try.func7, Try.ntmps7
    go_wp2_with fail
    refine (CompareInts_any A0 A1 n0 n1 c0 c1 xs0 xs1 _ h0 h1 (by omega) (by omega)).mono ?_
    rintro e w' ⟨rfl, rfl⟩
    rw [HA.out]
    go_wp2_with fail
    refine (CompareInts_any A1 A2 n1 n2 c1 c2 xs1 xs2 _ h1 h2 (by omega) (by omega)).mono ?_
    rintro e w' ⟨rfl, rfl⟩
    rw [HB.out]
    go_wp2_with fail
    refine (CompareInts_any A0 A2 n0 n2 c0 c2 xs0 xs2 _ h0 h2 (by omega) (by omega)).mono ?_
    rintro e w' ⟨rfl, rfl⟩
    rw [HC.out]
    go_wp2_with fail
    refine (CompareInts_any none _ 0 1 0 1 [] [0] _ Sees.nil_ (Z1.out _) (by omega) (by omega)).mono ?_
    rintro e w' ⟨rfl, rfl⟩
    rw [show cmpL [] [0] = -1 from rfl]
    go_wp2_with fail
    go_ret
    exact ⟨rfl, (Below.refl _ _).alloc (Nat.le_refl _) _⟩
  · go_enter Try.func7, Try.ntmps7
    go_wp2_with fail
    refine (CompareInts_any A0 A1 n0 n1 c0 c1 xs0 xs1 _ h0 h1 (by omega) (by omega)).mono ?_
    rintro e w' ⟨rfl, rfl⟩
    rw [HA.out]
    go_wp2_with fail
    refine (CompareInts_any A1 A2 n1 n2 c1 c2 xs1 xs2 _ h1 h2 (by omega) (by omega)).mono ?_
    rintro e w' ⟨rfl, rfl⟩
    rw [HB.out]
    go_wp2_with fail
    refine (CompareInts_any A0 A2 n0 n2 c0 c2 xs0 xs2 _ h0 h2 (by omega) (by omega)).mono ?_
    rintro e w' ⟨rfl, rfl⟩
    rw [HC.out]
    go_wp2_with fail
    refine (CompareInts_any none _ 0 1 0 1 [] [0] _ Sees.nil_ (Z1.out _) (by omega) (by omega)).mono ?_
    rintro e w' ⟨rfl, rfl⟩
    rw [show cmpL [] [0] = -1 from rfl]
    go_wp2_with fail
    go_ret
    exact ⟨rfl, (Below.refl _ _).alloc (Nat.le_refl _) _⟩

set_option maxRecDepth 100000 in
theorem lifted (os : Os) (started : os.Started) (H : Type) (enc : TypeId × Value → H) :
    ReturnsInHanded {} Try.checked os 7 .any (Rows.fnCompareIsTransitiveSpec.pre6 enc Try.prog Try.f7 Rows.fnCompareIsTransitiveRow.domain false) (Rows.fnCompareIsTransitiveSpec.post enc Try.prog Try.f7 false true false false) := by
  refine returnsInHanded_of_change_sized (C := Try.checked) ownKnob_none started (by kernel_rfl) Try.func7
    (ChangeSpec.witness6 (enc := enc) (C := Try.checked) false ⟨#[], #[.slice none 0 0, .slice none 0 0, .slice none 0 0], []⟩ 8 (by kernel_rfl) (by kernel_rfl) (by kernel_rfl) (by kernel_rfl)) ?_
  intro W base args ds gs before hval0 hW hcnd hsz0 _
  have hsz : (DataW.weightsEach Try.prog (Try.f7.params.toList ++ Rows.fnCompareIsTransitiveSpec.plain.varTypes Try.prog) (ds ++ gs)).all (· ≤ reachBytes) = true := hsz0
  have hval : ∀ (j : Nat) t v, Try.f7.params[j]? = some t → args[j]? = some v → Value.okWide Try.prog W .any base t v := hval0
  have hW' := hW
  obtain ⟨p, q, hA0, hV, rfl, hfz, hnd⟩ := hW
  have hA : DataW.TrodAll enc Try.prog W 0 (fun _ => true) true Try.f7.params.toList args.toList ds p := hA0
  rw [Try.params7] at hA hval hsz
  obtain ⟨v0, vs0, d0, ds0, p0, q0, hargs, rfl, rfl, h0, r0⟩ := trodAll_cons hA
  obtain ⟨v1, vs1, d1, ds1, p1, q1, rfl, rfl, rfl, h1, r1⟩ := trodAll_cons r0
  obtain ⟨v2, vs2, d2, ds2, p2, q2, rfl, rfl, rfl, h2, r2⟩ := trodAll_cons r1
  obtain ⟨rfl, rfl, rfl⟩ := trodAll_nil r2
  obtain rfl : args = #[v0, v1, v2] := by cases args; simp_all
  obtain ⟨rfl, rfl⟩ := trodVars_none hV
  have k0 := h0
  have lt0 : ∀ x ∈ p0, x.block < W.heap.size := by obtain ⟨m, hm⟩ := k0; exact DataW.trod_lt m _ _ _ hm
  obtain ⟨A0, n0, c0, xs0, rfl, s0, c0c, _, w0, z0, u0⟩ := arg_ints (hval 0 22 v0 rfl rfl) h0
  have k1 := h1
  have lt1 : ∀ x ∈ p1, x.block < W.heap.size := by obtain ⟨m, hm⟩ := k1; exact DataW.trod_lt m _ _ _ hm
  obtain ⟨A1, n1, c1, xs1, rfl, s1, c1c, _, w1, z1, u1⟩ := arg_ints (hval 1 22 v1 rfl rfl) h1
  have k2 := h2
  have lt2 : ∀ x ∈ p2, x.block < W.heap.size := by obtain ⟨m, hm⟩ := k2; exact DataW.trod_lt m _ _ _ hm
  obtain ⟨A2, n2, c2, xs2, rfl, s2, c2c, _, w2, z2, u2⟩ := arg_ints (hval 2 22 v2 rfl rfl) h2
  clear hA0 hval0 hsz0
  refine (walk A0 n0 c0 xs0 A1 n1 c1 xs1 A2 n2 c2 xs2 W s0 c0c w0 (z0 (weights_arg hsz 0 rfl rfl)) s1 c1c w1 (z1 (weights_arg hsz 1 rfl rfl)) s2 c2c w2 (z2 (weights_arg hsz 2 rfl rfl))).mono fun e W' ⟨he, bel⟩ => ?_
  subst he
  exact ⟨_, rfl, _, _, _, [], _, [], hW', trodAll_mk1 (shut_bool Try.underlying4 _), (trodAll_cons_mk (Below.trod laidOut (by kernel_rfl) (of_decide_eq_true (by kernel_rfl)) k0 bel lt0) (trodAll_cons_mk (Below.trod laidOut (by kernel_rfl) (of_decide_eq_true (by kernel_rfl)) k1 bel lt1) (trodAll_cons_mk (Below.trod laidOut (by kernel_rfl) (of_decide_eq_true (by kernel_rfl)) k2 bel lt2) trodAll_mk0))), rfl, bel.frame _, fun h => by cases h⟩

theorem over : Rows.fnCompareIsTransitiveRow.holds Try.pinned (OpenSpec.ofChange Rows.fnCompareIsTransitiveSpec) :=
  OpenClaim.holds_of_wide 7 Try.f7 rfl rfl rfl rfl rfl rfl rfl ⟨rfl, rfl, rfl, rfl, rfl⟩ rfl rfl rfl rfl rfl (by kernel_rfl) Try.func7 (by kernel_rfl)
    (of_decide_eq_true (by kernel_rfl)) (by unfold Func.isWrapper; first | (rw [if_pos (by decide +kernel)]; kernel_rfl) | (rw [if_neg (by decide +kernel)]; exact ⟨rfl, rfl⟩))
    (fun os started H enc _ => lifted os started H enc)

theorem proved : Rows.FnCompareIsTransitiveSaid := over
end Go.Proofs.Ytgogocodhilfnaa.fnCompareIsTransitive
