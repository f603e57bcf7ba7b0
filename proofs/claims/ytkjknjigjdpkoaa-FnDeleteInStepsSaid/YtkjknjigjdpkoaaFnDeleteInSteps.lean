/-
  Deleting a part is deleting the number at its beginning as often as it has numbers; no condition.
-/
import Derived.Test.YtkjknjigjdpkoaaLift
import Derived.Test.YtkjknjigjdpkoaaDelete
namespace Go.Proofs.Ytkjknjigjdpkoaa.fnDeleteInSteps
open Go.ChangeShapes Go.WideShapes Go.ChangeAt Go.RowKit
set_option linter.unusedVariables false

theorem step_drop (xs : List Int) (i k j n : Nat) (hn : xs.length = n) (hi : i ≤ k) (hk : k < j) (hj : j ≤ n) :
    (xs.take i ++ xs.drop k).take i ++ (xs.take i ++ xs.drop k).drop (i + 1) = xs.take i ++ xs.drop (k + 1) := by
  have hl : (xs.take i).length = i := by rw [List.length_take]; omega
  rw [List.take_left' hl]
  congr 1
  rw [← List.drop_drop, List.drop_left' hl, List.drop_drop]

set_option maxHeartbeats 1000000 in
set_option maxRecDepth 100000 in
theorem walk (A0 : Option Addr) (n0 c0 : Nat) (xs0 : List Int) (a1 : Int) (a2 : Int) (w : World) (h0 : Sees w A0 n0 1 (iv xs0)) (hc0 : n0 ≤ c0) (hw0 : ∀ x ∈ xs0, (Lit.int .i64 x).wf = true) (hn0 : n0 ≤ 17592186043904) (hw1 : (Lit.int .i64 a1).wf = true) (hw2 : (Lit.int .i64 a2).wf = true) :
    Calls Try.prog 3 #[.slice A0 n0 c0, .int .i64 a1, .int .i64 a2] w fun e w' => e = .returned (.bool true) ∧ Below w.heap.size w w' := by
  by_cases g1 : a1 < 0
  · go_enter Try.func3, Try.ntmps3
    go_wp2_with fail
    go_ret
    exact ⟨rfl, Below.refl _ _⟩
  by_cases g2 : a2 < a1
  · go_enter Try.func3, Try.ntmps3
    go_wp2_with fail
    go_ret
    exact ⟨rfl, Below.refl _ _⟩
  by_cases g3 : (n0 : Int) < a2
  · go_enter Try.func3, Try.ntmps3
    go_wp2_with fail
    go_ret
    exact ⟨rfl, Below.refl _ _⟩
  obtain ⟨i, rfl⟩ : ∃ i : Nat, a1 = (i : Int) := ⟨a1.toNat, by omega⟩
  obtain ⟨j, rfl⟩ : ∃ j : Nat, a2 = (j : Int) := ⟨a2.toNat, by omega⟩
  have hij : i ≤ j := by omega
  have hj : j ≤ n0 := by omega
  clear g1 g2 g3
  obtain ⟨i0, hi0, hz0, hz1, hz2⟩ := info_parts intInfo
  have HX := hide h0.ilen
  go_enter Try.func3, Try.ntmps3
  go_wp2_with fail
  refine (DeleteInts_ok A0 n0 c0 i j xs0 _ h0 hij hj (by omega)).mono ?_
  rintro e w1 ⟨Ay, cy, rfl, y, d1⟩
  have b1 : Below w.heap.size w w1 := (Below.refl w.heap.size w).trans (d1.mono (Below.refl w.heap.size w).size)
  have s1 : w.heap.size ≤ w1.heap.size := d1.size
  clear d1
  go_wp2_with (at_builtin; refine halt_here ?_)
  refine ⟨wpList_append_sees w1 rfl _ _ _ rfl w1.heap.size w1.heap.size 3 i0 _ 1 8 Try.underlying22 hi0 hz0 hz1 hz2 rfl (by omega) none 0 0 [] rfl (Row.none_ w1 _ _ _ _ (Nat.le_refl _)) A0 n0 c0 (iv xs0) rfl (h0.below b1) (iv_one _) (by unfold maxLen; omega) (by omega) (Nat.le_refl _) ?_⟩
  intro A1 c1 w2 z1 o2 _
  rw [Nat.zero_add, List.nil_append] at z1
  rw [Nat.zero_add]
  have d2 := o2.below (Nat.le_refl _) (Nat.le_refl _)
  have b2 : Below w.heap.size w w2 := b1.trans (d2.mono b1.size)
  replace y := y.next d2
  have l2 := y.2.2
  have L2 := hide l2
  clear o2 d2 l2
  go_wp2_with fail
  go_loopw [9, 10] (fun v t wr => ∃ (k : Nat) (B : Option Addr) (d : Nat), i ≤ k ∧ k ≤ j ∧ t = .int .i64 k ∧ v = .slice B (i + (n0 - k)) d ∧ Row wr w.heap.size wr.heap.size 3 1 B (i + (n0 - k)) d (iv (xs0.take i ++ xs0.drop k)) ∧ Row wr w.heap.size w1.heap.size 3 1 Ay (i + (n0 - j)) cy (iv (xs0.take i ++ xs0.drop j)) ∧ Below w.heap.size w wr) (fun _ t _ => j - (intOf t).toNat)
  case atStart =>
    refine ⟨i, A1, c1, Nat.le_refl _, hij, rfl, by rw [show i + (n0 - i) = n0 by omega], ?_, y, b2⟩
    rw [show i + (n0 - i) = n0 by omega, List.take_append_drop]
    exact z1.more b1.size (Nat.le_refl _) (Nat.le_refl _)
  case round =>
    obtain ⟨k, B, d, hik, hkj, rfl, rfl, zr, yr, br⟩ := hrel
    by_cases hlt : k < j
    · go_wp2_with fail
      rw [show ((i : Int) + 1) = ((i + 1 : Nat) : Int) by omega]
      refine (DeleteInts_ok B (i + (n0 - k)) d i (i + 1) (xs0.take i ++ xs0.drop k) _ zr.sees (by omega) (by omega) (by omega)).mono ?_
      rintro e w3 ⟨A3, c3, rfl, r3, d3⟩
      rw [step_drop xs0 i k j n0 HX.out hik hlt hj] at r3
      rw [show i + (i + (n0 - k) - (i + 1)) = i + (n0 - (k + 1)) by omega] at r3 ⊢
      have b3 : Below w.heap.size w w3 := br.trans (d3.mono br.size)
      have y3 := yr.next d3
      have r4 := r3.more br.size (Nat.le_refl _) (Nat.le_refl _)
      clear d3 r3
      go_wp2_with fail
      go_roundw
      case rel => exact ⟨k + 1, A3, c3, by omega, by omega, by go_num, rfl, r4, y3, b3⟩
      case measure => simp [intOf]; omega
    · obtain rfl : k = j := by omega
      go_wp2_with fail
      refine (sameInts_b Ay B (i + (n0 - k)) (i + (n0 - k)) cy d (xs0.take i ++ xs0.drop k) (xs0.take i ++ xs0.drop k) _ yr.sees zr.sees (by omega) (by omega)).mono ?_
      rintro e w3 ⟨rfl, d3⟩
      rw [decide_eq_true rfl]
      have b3 : Below w.heap.size w w3 := br.trans (d3.mono br.size)
      clear d3
      go_wp2_with fail
      go_ret
      exact ⟨rfl, b3⟩

set_option maxRecDepth 100000 in
theorem lifted (os : Os) (started : os.Started) (H : Type) (enc : TypeId × Value → H) :
    ReturnsInHanded {} Try.checked os 3 .any (Rows.fnDeleteInStepsSpec.pre6 enc Try.prog Try.f3 Rows.fnDeleteInStepsRow.domain false) (Rows.fnDeleteInStepsSpec.post enc Try.prog Try.f3 false true false false) := by
  refine returnsInHanded_of_change_sized (C := Try.checked) ownKnob_none started (by kernel_rfl) Try.func3
    (ChangeSpec.witness6 (enc := enc) (C := Try.checked) false ⟨#[], #[.slice none 0 0, .int .i64 0, .int .i64 0], []⟩ 8 (by kernel_rfl) (by kernel_rfl) (by kernel_rfl) (by kernel_rfl)) ?_
  intro W base args ds gs before hval0 hW hcnd hsz0 _
  have hsz : (DataW.weightsEach Try.prog (Try.f3.params.toList ++ Rows.fnDeleteInStepsSpec.plain.varTypes Try.prog) (ds ++ gs)).all (· ≤ reachBytes) = true := hsz0
  have hval : ∀ (j : Nat) t v, Try.f3.params[j]? = some t → args[j]? = some v → Value.okWide Try.prog W .any base t v := hval0
  have hW' := hW
  obtain ⟨p, q, hA0, hV, rfl, hfz, hnd⟩ := hW
  have hA : DataW.TrodAll enc Try.prog W 0 (fun _ => true) true Try.f3.params.toList args.toList ds p := hA0
  rw [Try.params3] at hA hval hsz
  obtain ⟨v0, vs0, d0, ds0, p0, q0, hargs, rfl, rfl, h0, r0⟩ := trodAll_cons hA
  obtain ⟨v1, vs1, d1, ds1, p1, q1, rfl, rfl, rfl, h1, r1⟩ := trodAll_cons r0
  obtain ⟨v2, vs2, d2, ds2, p2, q2, rfl, rfl, rfl, h2, r2⟩ := trodAll_cons r1
  obtain ⟨rfl, rfl, rfl⟩ := trodAll_nil r2
  obtain rfl : args = #[v0, v1, v2] := by cases args; simp_all
  obtain ⟨rfl, rfl⟩ := trodVars_none hV
  have k0 := h0
  have lt0 : ∀ x ∈ p0, x.block < W.heap.size := by obtain ⟨m, hm⟩ := k0; exact DataW.trod_lt m _ _ _ hm
  obtain ⟨A0, n0, c0, xs0, rfl, s0, c0c, _, w0, z0, u0⟩ := arg_ints (hval 0 22 v0 rfl rfl) h0
  obtain ⟨a1, rfl, rfl, rfl, w1⟩ := open_int Try.underlying3 (hval 1 3 v1 rfl rfl) h1
  obtain ⟨a2, rfl, rfl, rfl, w2⟩ := open_int Try.underlying3 (hval 2 3 v2 rfl rfl) h2
  clear hA0 hval0 hsz0
  refine (walk A0 n0 c0 xs0 a1 a2 W s0 c0c w0 (z0 (weights_arg hsz 0 rfl rfl)) w1 w2).mono fun e W' ⟨he, bel⟩ => ?_
  subst he
  exact ⟨_, rfl, _, _, _, [], _, [], hW', trodAll_mk1 (shut_bool Try.underlying4 _), (trodAll_cons_mk (Below.trod laidOut (by kernel_rfl) (of_decide_eq_true (by kernel_rfl)) k0 bel lt0) (trodAll_cons_mk (shut_int Try.underlying3 w1) (trodAll_cons_mk (shut_int Try.underlying3 w2) trodAll_mk0))), rfl, bel.frame _, fun h => by cases h⟩

theorem over : Rows.fnDeleteInStepsRow.holds Try.pinned (OpenSpec.ofChange Rows.fnDeleteInStepsSpec) :=
  OpenClaim.holds_of_wide 3 Try.f3 rfl rfl rfl rfl rfl rfl rfl ⟨rfl, rfl, rfl, rfl, rfl⟩ rfl rfl rfl rfl rfl (by kernel_rfl) Try.func3 (by kernel_rfl)
    (of_decide_eq_true (by kernel_rfl)) (by unfold Func.isWrapper; first | (rw [if_pos (by decide +kernel)]; kernel_rfl) | (rw [if_neg (by decide +kernel)]; exact ⟨rfl, rfl⟩))
    (fun os started H enc _ => lifted os started H enc)

theorem proved : Rows.FnDeleteInStepsSaid := over
end Go.Proofs.Ytkjknjigjdpkoaa.fnDeleteInSteps
