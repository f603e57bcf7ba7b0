/-
  IndexInt, for every list and number, returns what the reference returns and leaves its argument as it was; no condition.
-/
import Derived.Test.YteijfgijmdighaaLift
import Derived.Test.YteijfgijmdighaaSmall
import Derived.Test.YteijfgijmdighaaIndex
namespace Go.Proofs.Yteijfgijmdighaa.fnExactIndexInt
open Go.ChangeShapes Go.WideShapes Go.ChangeAt Go.RowKit
set_option linter.unusedVariables false

set_option maxHeartbeats 1000000 in
theorem walk (A0 : Option Addr) (n0 c0 : Nat) (xs0 : List Int) (a1 : Int) (w : World) (h0 : Sees w A0 n0 1 (iv xs0)) (hc0 : n0 ≤ c0) (hw0 : ∀ x ∈ xs0, (Lit.int .i64 x).wf = true) (hn0 : n0 ≤ 17592186043904) (hw1 : (Lit.int .i64 a1).wf = true) :
    Calls Try.prog 3 #[.slice A0 n0 c0, .int .i64 a1] w fun e w' => e = .returned (.bool true) ∧ Below w.heap.size w w' := by
  by_cases hbig : 1048576 < n0
  · go_enter Try.func3, Try.ntmps3
    go_wp2_with fail
    go_ret
    exact ⟨rfl, Below.refl _ _⟩
  · go_enter Try.func3, Try.ntmps3
    go_wp2_with fail
    refine (toIntS_any A0 n0 c0 xs0 _ h0 (by omega)).mono ?_
    rintro e w1 ⟨A1, c1, rfl, r1, b1⟩
    go_wp2_with fail
    refine (specIndexInt_any A1 n0 c1 a1 xs0 _ r1.sees (by omega)).mono ?_
    rintro e w' ⟨rfl, rfl⟩
    go_wp2_with fail
    refine (toIntS_any A0 n0 c0 xs0 _ (h0.below b1) (by omega)).mono ?_
    rintro e w2 ⟨A2, c2, rfl, r2, b2⟩
    go_wp2_with fail
    refine (IndexInt_any A2 n0 c2 a1 xs0 _ r2.sees (by omega)).mono ?_
    rintro e w' ⟨rfl, rfl⟩
    have e1 : (ix a1 xs0 != ix a1 xs0) = false := by simp
    go_wp2_with fail
    have b12 : Below w.heap.size w w2 := b1.trans (b2.mono b1.size)
    refine (toIntS_any A0 n0 c0 xs0 _ (h0.below b12) (by omega)).mono ?_
    rintro e w3 ⟨A3, c3, rfl, r3, b3⟩
    go_wp2_with fail
    refine (eqIntS_any A2 A3 n0 n0 c2 c3 xs0 xs0 _ (r2.below b3 (Nat.le_refl _)).sees r3.sees (by omega) (by omega)).mono ?_
    rintro e w4 ⟨rfl, q, rfl⟩
    rw [decide_eq_true rfl]
    go_wp2_with fail
    go_ret
    exact ⟨rfl, below_drewN (b12.trans (b3.mono b12.size)) q⟩

set_option maxRecDepth 100000 in
theorem lifted (os : Os) (started : os.Started) (H : Type) (enc : TypeId × Value → H) :
    ReturnsInHanded {} Try.checked os 3 .any (Rows.fnExactIndexIntSpec.pre6 enc Try.prog Try.f3 Rows.fnExactIndexIntRow.domain false) (Rows.fnExactIndexIntSpec.post enc Try.prog Try.f3 false true false false) := by
  refine returnsInHanded_of_change_sized (C := Try.checked) ownKnob_none started (by kernel_rfl) Try.func3
    (ChangeSpec.witness6 (enc := enc) (C := Try.checked) false ⟨#[], #[.slice none 0 0, .int .i64 0], []⟩ 8 (by kernel_rfl) (by kernel_rfl) (by kernel_rfl) (by kernel_rfl)) ?_
  intro W base args ds gs before hval0 hW hcnd hsz0 _
  have hsz : (DataW.weightsEach Try.prog (Try.f3.params.toList ++ Rows.fnExactIndexIntSpec.plain.varTypes Try.prog) (ds ++ gs)).all (· ≤ reachBytes) = true := hsz0
  have hval : ∀ (j : Nat) t v, Try.f3.params[j]? = some t → args[j]? = some v → Value.okWide Try.prog W .any base t v := hval0
  have hW' := hW
  obtain ⟨p, q, hA0, hV, rfl, hfz, hnd⟩ := hW
  have hA : DataW.TrodAll enc Try.prog W 0 (fun _ => true) true Try.f3.params.toList args.toList ds p := hA0
  rw [Try.params3] at hA hval hsz
  obtain ⟨v0, vs0, d0, ds0, p0, q0, hargs, rfl, rfl, h0, r0⟩ := trodAll_cons hA
  obtain ⟨v1, vs1, d1, ds1, p1, q1, rfl, rfl, rfl, h1, r1⟩ := trodAll_cons r0
  obtain ⟨rfl, rfl, rfl⟩ := trodAll_nil r1
  obtain rfl : args = #[v0, v1] := by cases args; simp_all
  obtain ⟨rfl, rfl⟩ := trodVars_none hV
  have k0 := h0
  have lt0 : ∀ x ∈ p0, x.block < W.heap.size := by obtain ⟨m, hm⟩ := k0; exact DataW.trod_lt m _ _ _ hm
  obtain ⟨A0, n0, c0, xs0, rfl, s0, c0c, _, w0, z0, u0⟩ := arg_ints (hval 0 22 v0 rfl rfl) h0
  obtain ⟨a1, rfl, rfl, rfl, w1⟩ := open_int Try.underlying3 (hval 1 3 v1 rfl rfl) h1
  clear hA0 hval0 hsz0
  refine (walk A0 n0 c0 xs0 a1 W s0 c0c w0 (z0 (weights_arg hsz 0 rfl rfl)) w1).mono fun e W' ⟨he, bel⟩ => ?_
  subst he
  exact ⟨_, rfl, _, _, _, [], _, [], hW', trodAll_mk1 (shut_bool Try.underlying4 _), (trodAll_cons_mk (Below.trod laidOut (by kernel_rfl) (of_decide_eq_true (by kernel_rfl)) k0 bel lt0) (trodAll_cons_mk (shut_int Try.underlying3 w1) trodAll_mk0)), rfl, bel.frame _, fun h => by cases h⟩

theorem over : Rows.fnExactIndexIntRow.holds Try.pinned (OpenSpec.ofChange Rows.fnExactIndexIntSpec) :=
  OpenClaim.holds_of_wide 3 Try.f3 rfl rfl rfl rfl rfl rfl rfl ⟨rfl, rfl, rfl, rfl, rfl⟩ rfl rfl rfl rfl rfl (by kernel_rfl) Try.func3 (by kernel_rfl)
    (of_decide_eq_true (by kernel_rfl)) (by unfold Func.isWrapper; first | (rw [if_pos (by decide +kernel)]; kernel_rfl) | (rw [if_neg (by decide +kernel)]; exact ⟨rfl, rfl⟩))
    (fun os started H enc _ => lifted os started H enc)

theorem proved : Rows.FnExactIndexIntSaid := over
end Go.Proofs.Yteijfgijmdighaa.fnExactIndexInt
