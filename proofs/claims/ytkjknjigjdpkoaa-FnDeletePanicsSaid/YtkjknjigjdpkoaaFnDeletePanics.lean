/-
  slices.Delete panics exactly if i and j are no ends of a part of the list; no condition.
-/
import Derived.Test.YtkjknjigjdpkoaaLift
import Derived.Test.YtkjknjigjdpkoaaDelete
namespace Go.Proofs.Ytkjknjigjdpkoaa.fnDeletePanics
open Go.ChangeShapes Go.WideShapes Go.ChangeAt Go.RowKit
set_option linter.unusedVariables false

set_option maxHeartbeats 1000000 in
theorem walk (A0 : Option Addr) (n0 c0 : Nat) (xs0 : List Int) (a1 : Int) (a2 : Int) (w : World) (h0 : Sees w A0 n0 1 (iv xs0)) (hc0 : n0 ≤ c0) (hw0 : ∀ x ∈ xs0, (Lit.int .i64 x).wf = true) (hn0 : n0 ≤ 17592186043904) (hw1 : (Lit.int .i64 a1).wf = true) (hw2 : (Lit.int .i64 a2).wf = true) :
    Calls Try.prog 6 #[.slice A0 n0 c0, .int .i64 a1, .int .i64 a2] w fun e w' => e = .returned (.bool true) ∧ Below w.heap.size w w' := by
  by_cases hin : 0 ≤ a1 ∧ a1 ≤ a2 ∧ a2 ≤ (n0 : Int)
  · obtain ⟨i, rfl⟩ : ∃ i : Nat, a1 = (i : Int) := ⟨a1.toNat, by omega⟩
    obtain ⟨j, rfl⟩ : ∃ j : Nat, a2 = (j : Int) := ⟨a2.toNat, by omega⟩
    have hij : i ≤ j := by omega
    have hj : j ≤ n0 := by omega
    clear hin
    go_enter Try.func6, Try.ntmps6
    go_wp2_with fail
    refine (DeleteInts_ok A0 n0 c0 i j xs0 _ h0 hij hj (by omega)).mono ?_
    rintro e w1 ⟨Ay, cy, rfl, y, d1⟩
    have b1 : Below w.heap.size w w1 := (Below.refl w.heap.size w).trans (d1.mono (Below.refl w.heap.size w).size)
    have s1 : w.heap.size ≤ w1.heap.size := d1.size
    clear d1
    go_wp2_with fail
    refine (DeleteRest_ok A0 n0 c0 i j xs0 _ (h0.below b1) hij hj (by omega)).mono ?_
    rintro e w2 ⟨Az, cz, rfl, z, d2⟩
    have b2 : Below w.heap.size w w2 := b1.trans (d2.mono b1.size)
    have s2 : w1.heap.size ≤ w2.heap.size := d2.size
    replace y := y.next d2
    clear d2
    go_wp2_with fail
    go_ret
    exact ⟨rfl, b2⟩
  · have hout : a2 < 0 ∨ (n0 : Int) < a2 ∨ a1 < 0 ∨ a2 < a1 := by omega
    by_cases g1 : 0 ≤ a1
    · by_cases g2 : a1 ≤ a2
      · have g3 : decide (a2 ≤ (n0 : Int)) = false := by simp; omega
        have HO := hide hout
        clear hout hin
        go_enter Try.func6, Try.ntmps6
        go_wp2_with fail
        refine (DeleteInts_bad A0 n0 c0 a1 a2 xs0 _ h0 (by omega) HO.out).mono ?_
        rintro e w1 ⟨rfl, d1⟩
        have b1 : Below w.heap.size w w1 := (Below.refl w.heap.size w).trans (d1.mono (Below.refl w.heap.size w).size)
        have s1 : w.heap.size ≤ w1.heap.size := d1.size
        clear d1
        go_wp2_with fail
        refine (DeleteRest_bad A0 n0 c0 a1 a2 xs0 _ (h0.below b1) (by omega) HO.out).mono ?_
        rintro e w2 ⟨rfl, d2⟩
        have b2 : Below w.heap.size w w2 := b1.trans (d2.mono b1.size)
        have s2 : w1.heap.size ≤ w2.heap.size := d2.size
        clear d2
        go_wp2_with fail
        go_ret
        exact ⟨rfl, b2⟩
      · have HO := hide hout
        clear hout hin
        go_enter Try.func6, Try.ntmps6
        go_wp2_with fail
        refine (DeleteInts_bad A0 n0 c0 a1 a2 xs0 _ h0 (by omega) HO.out).mono ?_
        rintro e w1 ⟨rfl, d1⟩
        have b1 : Below w.heap.size w w1 := (Below.refl w.heap.size w).trans (d1.mono (Below.refl w.heap.size w).size)
        have s1 : w.heap.size ≤ w1.heap.size := d1.size
        clear d1
        go_wp2_with fail
        refine (DeleteRest_bad A0 n0 c0 a1 a2 xs0 _ (h0.below b1) (by omega) HO.out).mono ?_
        rintro e w2 ⟨rfl, d2⟩
        have b2 : Below w.heap.size w w2 := b1.trans (d2.mono b1.size)
        have s2 : w1.heap.size ≤ w2.heap.size := d2.size
        clear d2
        go_wp2_with fail
        go_ret
        exact ⟨rfl, b2⟩
    · have HO := hide hout
      clear hout hin
      go_enter Try.func6, Try.ntmps6
      go_wp2_with fail
      refine (DeleteInts_bad A0 n0 c0 a1 a2 xs0 _ h0 (by omega) HO.out).mono ?_
      rintro e w1 ⟨rfl, d1⟩
      have b1 : Below w.heap.size w w1 := (Below.refl w.heap.size w).trans (d1.mono (Below.refl w.heap.size w).size)
      have s1 : w.heap.size ≤ w1.heap.size := d1.size
      clear d1
      go_wp2_with fail
      refine (DeleteRest_bad A0 n0 c0 a1 a2 xs0 _ (h0.below b1) (by omega) HO.out).mono ?_
      rintro e w2 ⟨rfl, d2⟩
      have b2 : Below w.heap.size w w2 := b1.trans (d2.mono b1.size)
      have s2 : w1.heap.size ≤ w2.heap.size := d2.size
      clear d2
      go_wp2_with fail
      go_ret
      exact ⟨rfl, b2⟩

set_option maxRecDepth 100000 in
theorem lifted (os : Os) (started : os.Started) (H : Type) (enc : TypeId × Value → H) :
    ReturnsInHanded {} Try.checked os 6 .any (Rows.fnDeletePanicsSpec.pre6 enc Try.prog Try.f6 Rows.fnDeletePanicsRow.domain false) (Rows.fnDeletePanicsSpec.post enc Try.prog Try.f6 false true false false) := by
  refine returnsInHanded_of_change_sized (C := Try.checked) ownKnob_none started (by kernel_rfl) Try.func6
    (ChangeSpec.witness6 (enc := enc) (C := Try.checked) false ⟨#[], #[.slice none 0 0, .int .i64 0, .int .i64 0], []⟩ 8 (by kernel_rfl) (by kernel_rfl) (by kernel_rfl) (by kernel_rfl)) ?_
  intro W base args ds gs before hval0 hW hcnd hsz0 _
  have hsz : (DataW.weightsEach Try.prog (Try.f6.params.toList ++ Rows.fnDeletePanicsSpec.plain.varTypes Try.prog) (ds ++ gs)).all (· ≤ reachBytes) = true := hsz0
  have hval : ∀ (j : Nat) t v, Try.f6.params[j]? = some t → args[j]? = some v → Value.okWide Try.prog W .any base t v := hval0
  have hW' := hW
  obtain ⟨p, q, hA0, hV, rfl, hfz, hnd⟩ := hW
  have hA : DataW.TrodAll enc Try.prog W 0 (fun _ => true) true Try.f6.params.toList args.toList ds p := hA0
  rw [Try.params6] at hA hval hsz
  obtain ⟨v0, vs0, d0, ds0, p0, q0, hargs, rfl, rfl, h0, r0⟩ := trodAll_cons hA
  obtain ⟨v1, vs1, d1, ds1, p1, q1, rfl, rfl, rfl, h1, r1⟩ := trodAll_cons r0
  obtain ⟨v2, vs2, d2, ds2, p2, q2, rfl, rfl, rfl, h2, r2⟩ := trodAll_cons r1
  obtain ⟨rfl, rfl, rfl⟩ := trodAll_nil r2
  obtain rfl : args = #[v0, v1, v2] := by cases args; simp_all
  obtain ⟨rfl, rfl⟩ := trodVars_none hV
  have k0 := h0
  have lt0 : ∀ x ∈ p0, x.block < W.heap.size := by obtain ⟨m, hm⟩ := k0; exact DataW.trod_lt m _ _ _ hm
  obtain ⟨A0, n0, c0, xs0, rfl, s0, c0c, _, w0, z0, u0⟩ := arg_ints (hval 0 22 v0 rfl rfl) h0
  obtain ⟨a1, rfl, rfl, rfl, w1⟩ := open_int Try.underlying3 (hval 1 3 v1 rfl rfl) h1
  obtain ⟨a2, rfl, rfl, rfl, w2⟩ := open_int Try.underlying3 (hval 2 3 v2 rfl rfl) h2
  clear hA0 hval0 hsz0
  refine (walk A0 n0 c0 xs0 a1 a2 W s0 c0c w0 (z0 (weights_arg hsz 0 rfl rfl)) w1 w2).mono fun e W' ⟨he, bel⟩ => ?_
  subst he
  exact ⟨_, rfl, _, _, _, [], _, [], hW', trodAll_mk1 (shut_bool Try.underlying4 _), (trodAll_cons_mk (Below.trod laidOut (by kernel_rfl) (of_decide_eq_true (by kernel_rfl)) k0 bel lt0) (trodAll_cons_mk (shut_int Try.underlying3 w1) (trodAll_cons_mk (shut_int Try.underlying3 w2) trodAll_mk0))), rfl, bel.frame _, fun h => by cases h⟩

theorem over : Rows.fnDeletePanicsRow.holds Try.pinned (OpenSpec.ofChange Rows.fnDeletePanicsSpec) :=
  OpenClaim.holds_of_wide 6 Try.f6 rfl rfl rfl rfl rfl rfl rfl ⟨rfl, rfl, rfl, rfl, rfl⟩ rfl rfl rfl rfl rfl (by kernel_rfl) Try.func6 (by kernel_rfl)
    (of_decide_eq_true (by kernel_rfl)) (by unfold Func.isWrapper; first | (rw [if_pos (by decide +kernel)]; kernel_rfl) | (rw [if_neg (by decide +kernel)]; exact ⟨rfl, rfl⟩))
    (fun os started H enc _ => lifted os started H enc)

theorem proved : Rows.FnDeletePanicsSaid := over
end Go.Proofs.Ytkjknjigjdpkoaa.fnDeletePanics
