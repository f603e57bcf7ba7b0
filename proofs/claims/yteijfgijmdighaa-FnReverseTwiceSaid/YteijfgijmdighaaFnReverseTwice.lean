/-
  slices.Reverse twice is the list, once it has each number at the index counted from the end; no condition.
-/
import Derived.Test.YteijfgijmdighaaLift
import Derived.Test.YteijfgijmdighaaReverse
namespace Go.Proofs.Yteijfgijmdighaa.fnReverseTwice
open Go.ChangeShapes Go.WideShapes Go.ChangeAt Go.RowKit
set_option linter.unusedVariables false

set_option maxHeartbeats 1000000 in
theorem walk (A0 : Option Addr) (n0 c0 : Nat) (xs0 : List Int) (w : World) (h0 : Sees w A0 n0 1 (iv xs0)) (hc0 : n0 ≤ c0) (hw0 : ∀ x ∈ xs0, (Lit.int .i64 x).wf = true) (hn0 : n0 ≤ 17592186043904) :
    Calls Try.prog 10 #[.slice A0 n0 c0] w fun e w' => e = .returned (.bool true) ∧ Below w.heap.size w w' := by
  have HX := hide h0.ilen
  have e0 : ((n0 : Int) != (n0 : Int)) = false := by simp
  go_enter Try.func10, Try.ntmps10
  go_wp2_with fail
  refine (ReverseInts_any A0 n0 c0 xs0 _ h0 (by omega)).mono ?_
  rintro e w1 ⟨Ay, cy, rfl, y, d1⟩
  have b1 : Below w.heap.size w w1 := (Below.refl w.heap.size w).trans (d1.mono (Below.refl w.heap.size w).size)
  have s1 : w.heap.size ≤ w1.heap.size := d1.size
  clear d1
  go_wp2_with fail
  have x := h0.below b1
  go_loop [15] (fun i => ∃ k : Nat, k ≤ n0 ∧ i = .int .i64 k) (fun i => n0 - (intOf i).toNat)
  case atStart => exact ⟨0, Nat.zero_le _, rfl⟩
  case round =>
    obtain ⟨k, hk, rfl⟩ := hrel
    by_cases hlt : k < n0
    · obtain ⟨ad, u, rfl, _, HU, hc⟩ := x.int hlt
      obtain ⟨bd, v, rfl, _, HV, hd⟩ := y.sees.int (show n0 - 1 - k < n0 by omega)
      obtain rfl : v = u := by
        have h1 := HV.out
        have h2 := HX.out
        rw [List.getElem?_reverse (by omega), h2, show n0 - 1 - (n0 - 1 - k) = k by omega, HU.out] at h1
        exact (Option.some.inj h1).symm
      have e1 : (v != v) = false := by simp
      go_wp2_with fail
      go_round
      case rel => exact ⟨k + 1, by omega, by go_num⟩
      case measure => simp [intOf]; omega
    · go_wp2_with fail
      refine (ReverseInts_any Ay n0 cy xs0.reverse _ y.sees (by omega)).mono ?_
      rintro e w2 ⟨Az, cz, rfl, z, d2⟩
      have b2 : Below w.heap.size w w2 := b1.trans (d2.mono b1.size)
      have s2 : w1.heap.size ≤ w2.heap.size := d2.size
      replace y := y.next d2
      clear d2
      go_wp2_with fail
      refine (sameInts_b Az A0 n0 n0 cz c0 xs0.reverse.reverse xs0 _ z.sees (h0.below b2) (by omega) (by omega)).mono ?_
      rintro e w3 ⟨rfl, d3⟩
      have b3 : Below w.heap.size w w3 := b2.trans (d3.mono b2.size)
      have s3 : w2.heap.size ≤ w3.heap.size := d3.size
      replace y := y.next d3
      replace z := z.next d3
      clear d3
      rw [decide_eq_true (List.reverse_reverse xs0)]
      go_wp2_with fail
      go_ret
      exact ⟨rfl, b3⟩

set_option maxRecDepth 100000 in
theorem lifted (os : Os) (started : os.Started) (H : Type) (enc : TypeId × Value → H) :
    ReturnsInHanded {} Try.checked os 10 .any (Rows.fnReverseTwiceSpec.pre6 enc Try.prog Try.f10 Rows.fnReverseTwiceRow.domain false) (Rows.fnReverseTwiceSpec.post enc Try.prog Try.f10 false true false false) := by
  refine returnsInHanded_of_change_sized (C := Try.checked) ownKnob_none started (by kernel_rfl) Try.func10
    (ChangeSpec.witness6 (enc := enc) (C := Try.checked) false ⟨#[], #[.slice none 0 0], []⟩ 8 (by kernel_rfl) (by kernel_rfl) (by kernel_rfl) (by kernel_rfl)) ?_
  intro W base args ds gs before hval0 hW hcnd hsz0 _
  have hsz : (DataW.weightsEach Try.prog (Try.f10.params.toList ++ Rows.fnReverseTwiceSpec.plain.varTypes Try.prog) (ds ++ gs)).all (· ≤ reachBytes) = true := hsz0
  have hval : ∀ (j : Nat) t v, Try.f10.params[j]? = some t → args[j]? = some v → Value.okWide Try.prog W .any base t v := hval0
  have hW' := hW
  obtain ⟨p, q, hA0, hV, rfl, hfz, hnd⟩ := hW
  have hA : DataW.TrodAll enc Try.prog W 0 (fun _ => true) true Try.f10.params.toList args.toList ds p := hA0
  rw [Try.params10] at hA hval hsz
  obtain ⟨v0, vs0, d0, ds0, p0, q0, hargs, rfl, rfl, h0, r0⟩ := trodAll_cons hA
  obtain ⟨rfl, rfl, rfl⟩ := trodAll_nil r0
  obtain rfl : args = #[v0] := by cases args; simp_all
  obtain ⟨rfl, rfl⟩ := trodVars_none hV
  have k0 := h0
  have lt0 : ∀ x ∈ p0, x.block < W.heap.size := by obtain ⟨m, hm⟩ := k0; exact DataW.trod_lt m _ _ _ hm
  obtain ⟨A0, n0, c0, xs0, rfl, s0, c0c, _, w0, z0, u0⟩ := arg_ints (hval 0 22 v0 rfl rfl) h0
  clear hA0 hval0 hsz0
  refine (walk A0 n0 c0 xs0 W s0 c0c w0 (z0 (weights_arg hsz 0 rfl rfl))).mono fun e W' ⟨he, bel⟩ => ?_
  subst he
  exact ⟨_, rfl, _, _, _, [], _, [], hW', trodAll_mk1 (shut_bool Try.underlying4 _), (trodAll_cons_mk (Below.trod laidOut (by kernel_rfl) (of_decide_eq_true (by kernel_rfl)) k0 bel lt0) trodAll_mk0), rfl, bel.frame _, fun h => by cases h⟩

theorem over : Rows.fnReverseTwiceRow.holds Try.pinned (OpenSpec.ofChange Rows.fnReverseTwiceSpec) :=
  OpenClaim.holds_of_wide 10 Try.f10 rfl rfl rfl rfl rfl rfl rfl ⟨rfl, rfl, rfl, rfl, rfl⟩ rfl rfl rfl rfl rfl (by kernel_rfl) Try.func10 (by kernel_rfl)
    (of_decide_eq_true (by kernel_rfl)) (by unfold Func.isWrapper; first | (rw [if_pos (by decide +kernel)]; kernel_rfl) | (rw [if_neg (by decide +kernel)]; exact ⟨rfl, rfl⟩))
    (fun os started H enc _ => lifted os started H enc)

theorem proved : Rows.FnReverseTwiceSaid := over
end Go.Proofs.Yteijfgijmdighaa.fnReverseTwice
