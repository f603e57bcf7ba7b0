/-
  Two lists one behind the other are reversed as both reversed ones in the other order; for arguments of bulk at most 1048576.
-/
import Derived.Test.YteijfgijmdighaaLift
import Derived.Test.YteijfgijmdighaaReverse
namespace Go.Proofs.Yteijfgijmdighaa.fnReverseOfJoined
open Go.ChangeShapes Go.WideShapes Go.ChangeAt Go.RowKit
set_option linter.unusedVariables false

set_option maxHeartbeats 1000000 in
theorem walk (A0 : Option Addr) (n0 c0 : Nat) (xs0 : List Int) (A1 : Option Addr) (n1 c1 : Nat) (xs1 : List Int) (w : World) (h0 : Sees w A0 n0 1 (iv xs0)) (hc0 : n0 ≤ c0) (hw0 : ∀ x ∈ xs0, (Lit.int .i64 x).wf = true) (h1 : Sees w A1 n1 1 (iv xs1)) (hc1 : n1 ≤ c1) (hw1 : ∀ x ∈ xs1, (Lit.int .i64 x).wf = true) (hup : n0 + n1 ≤ 1048576) :
    Calls Try.prog 9 #[.slice A0 n0 c0, .slice A1 n1 c1] w fun e w' => e = .returned (.bool true) ∧ Below w.heap.size w w' := by
  go_enter Try.func9, Try.ntmps9
  go_wp2_with fail
  refine (joined_any A0 A1 n0 n1 c0 c1 xs0 xs1 _ h0 h1 (by omega)).mono ?_
  rintro e w1 ⟨Aa, ca, rfl, a, d1⟩
  have b1 : Below w.heap.size w w1 := (Below.refl w.heap.size w).trans (d1.mono (Below.refl w.heap.size w).size)
  have s1 : w.heap.size ≤ w1.heap.size := d1.size
  clear d1
  go_wp2_with fail
  refine (ReverseInts_any Aa (n0 + n1) ca (xs0 ++ xs1) _ a.sees (by omega)).mono ?_
  rintro e w2 ⟨Ay, cy, rfl, y, d2⟩
  have b2 : Below w.heap.size w w2 := b1.trans (d2.mono b1.size)
  have s2 : w1.heap.size ≤ w2.heap.size := d2.size
  replace a := a.next d2
  clear d2
  go_wp2_with fail
  refine (ReverseInts_any A1 n1 c1 xs1 _ (h1.below b2) (by omega)).mono ?_
  rintro e w3 ⟨Ap, cp, rfl, p, d3⟩
  have b3 : Below w.heap.size w w3 := b2.trans (d3.mono b2.size)
  have s3 : w2.heap.size ≤ w3.heap.size := d3.size
  replace a := a.next d3
  replace y := y.next d3
  clear d3
  go_wp2_with fail
  refine (ReverseInts_any A0 n0 c0 xs0 _ (h0.below b3) (by omega)).mono ?_
  rintro e w4 ⟨Aq, cq, rfl, q, d4⟩
  have b4 : Below w.heap.size w w4 := b3.trans (d4.mono b3.size)
  have s4 : w3.heap.size ≤ w4.heap.size := d4.size
  replace a := a.next d4
  replace y := y.next d4
  replace p := p.next d4
  clear d4
  go_wp2_with fail
  refine (joined_any Ap Aq n1 n0 cp cq xs1.reverse xs0.reverse _ p.sees q.sees (by omega)).mono ?_
  rintro e w5 ⟨Az, cz, rfl, z, d5⟩
  have b5 : Below w.heap.size w w5 := b4.trans (d5.mono b4.size)
  have s5 : w4.heap.size ≤ w5.heap.size := d5.size
  replace a := a.next d5
  replace y := y.next d5
  replace p := p.next d5
  replace q := q.next d5
  clear d5
  go_wp2_with fail
  refine (sameInts_b Ay Az (n0 + n1) (n1 + n0) cy cz (xs0 ++ xs1).reverse (xs1.reverse ++ xs0.reverse) _ y.sees z.sees (by omega) (by omega)).mono ?_
  rintro e w6 ⟨rfl, d6⟩
  have b6 : Below w.heap.size w w6 := b5.trans (d6.mono b5.size)
  have s6 : w5.heap.size ≤ w6.heap.size := d6.size
  replace a := a.next d6
  replace y := y.next d6
  replace p := p.next d6
  replace q := q.next d6
  replace z := z.next d6
  clear d6
  rw [decide_eq_true List.reverse_append]
  go_wp2_with fail
  go_ret
  exact ⟨rfl, b6⟩

set_option maxRecDepth 100000 in
theorem lifted (os : Os) (started : os.Started) (H : Type) (enc : TypeId × Value → H) (F : Stop.Interp) :
    ReturnsInHanded {} Try.checked os 9 .any ((Rows.OpenSpec.upto Rows.fnReverseOfJoinedSpec).pre6 enc Try.prog Try.f9 Rows.fnReverseOfJoinedUptoRow.domain false) (((Rows.OpenSpec.upto Rows.fnReverseOfJoinedSpec).at F).post enc Try.prog Try.f9 false true false false) := by
  refine returnsInHanded_of_cond (C := Try.checked) (s := Rows.OpenSpec.upto Rows.fnReverseOfJoinedSpec) (k := Rows.uptoSmall) rfl ownKnob_none started (by kernel_rfl) Try.func9
    (OpenSpec.witness (enc := enc) (C := Try.checked) (s := Rows.OpenSpec.upto Rows.fnReverseOfJoinedSpec) (k := Rows.uptoSmall) rfl false ⟨#[], #[.slice none 0 0, .slice none 0 0], []⟩ 8 (by kernel_rfl) (by kernel_rfl) (by kernel_rfl)
      (x := ([.nil, .nil], [], [])) (by kernel_rfl) rfl (by kernel_rfl)) ?_
  intro W base args ds gs before hval0 hW hcnd hk _
  have hval : ∀ (j : Nat) t v, Try.f9.params[j]? = some t → args[j]? = some v → Value.okWide Try.prog W .any base t v := hval0
  have hW' := hW
  obtain ⟨p, q, hA0, hV, rfl, hfz, hnd⟩ := hW
  have hA : DataW.TrodAll enc Try.prog W 0 (fun _ => true) true Try.f9.params.toList args.toList ds p := hA0
  rw [Try.params9] at hA hval
  obtain ⟨v0, vs0, d0, ds0, p0, q0, hargs, rfl, rfl, h0, r0⟩ := trodAll_cons hA
  obtain ⟨v1, vs1, d1, ds1, p1, q1, rfl, rfl, rfl, h1, r1⟩ := trodAll_cons r0
  obtain ⟨rfl, rfl, rfl⟩ := trodAll_nil r1
  obtain rfl : args = #[v0, v1] := by cases args; simp_all
  obtain ⟨rfl, rfl⟩ := trodVars_none hV
  have k0 := h0
  have lt0 : ∀ x ∈ p0, x.block < W.heap.size := by obtain ⟨m, hm⟩ := k0; exact DataW.trod_lt m _ _ _ hm
  obtain ⟨A0, n0, c0, xs0, rfl, s0, c0c, _, w0, z0, u0⟩ := arg_ints (hval 0 22 v0 rfl rfl) h0
  have k1 := h1
  have lt1 : ∀ x ∈ p1, x.block < W.heap.size := by obtain ⟨m, hm⟩ := k1; exact DataW.trod_lt m _ _ _ hm
  obtain ⟨A1, n1, c1, xs1, rfl, s1, c1c, _, w1, z1, u1⟩ := arg_ints (hval 1 22 v1 rfl rfl) h1
  clear hA0 hval0
  have hup : n0 + n1 ≤ 1048576 := by
    have hk1 := of_decide_eq_true hk
    simp only [List.append_nil, Rows.uptoBulkAll] at hk1
    omega
  refine (walk A0 n0 c0 xs0 A1 n1 c1 xs1 W s0 c0c w0 s1 c1c w1 hup).mono fun e W' ⟨he, bel⟩ => ?_
  subst he
  exact ⟨_, rfl, _, _, _, [], _, [], hW', trodAll_mk1 (shut_bool Try.underlying4 _), (trodAll_cons_mk (Below.trod laidOut (by kernel_rfl) (of_decide_eq_true (by kernel_rfl)) k0 bel lt0) (trodAll_cons_mk (Below.trod laidOut (by kernel_rfl) (of_decide_eq_true (by kernel_rfl)) k1 bel lt1) trodAll_mk0)), rfl, bel.frame _, fun h => by cases h⟩

theorem over : Rows.fnReverseOfJoinedUptoRow.holds Try.pinned (Rows.OpenSpec.upto Rows.fnReverseOfJoinedSpec) :=
  OpenClaim.holds_of_cond 9 Try.f9 rfl rfl rfl rfl rfl rfl rfl ⟨rfl, rfl, rfl, rfl, rfl⟩ rfl rfl rfl rfl rfl (by kernel_rfl) Try.func9 (by kernel_rfl)
    (of_decide_eq_true (by kernel_rfl)) (by unfold Func.isWrapper; first | (rw [if_pos (by decide +kernel)]; kernel_rfl) | (rw [if_neg (by decide +kernel)]; exact ⟨rfl, rfl⟩))
    (fun os started H enc _ F => lifted os started H enc F)

theorem proved : Rows.FnReverseOfJoinedUptoSaid := over
end Go.Proofs.Yteijfgijmdighaa.fnReverseOfJoined
