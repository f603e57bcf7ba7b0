/-
  slices.Replace panics exactly if i and j are no ends of a part of the list; for arguments of bulk at most 1048576.
-/
import Derived.Test.YtbcjcceejddocaaLift
import Derived.Test.YtbcjcceejddocaaRepW
namespace Go.Proofs.Ytbcjcceejddocaa.fnReplaceRestPanics
open Go.ChangeShapes Go.WideShapes Go.ChangeAt Go.RowKit
set_option linter.unusedVariables false

set_option maxHeartbeats 1000000 in
theorem walk (A0 : Option Addr) (n0 c0 : Nat) (xs0 : List Int) (a1 : Int) (a2 : Int) (A3 : Option Addr) (n3 c3 : Nat) (xs3 : List Int) (w : World) (h0 : Sees w A0 n0 1 (iv xs0)) (hc0 : n0 ≤ c0) (hw0 : ∀ x ∈ xs0, (Lit.int .i64 x).wf = true) (hw1 : (Lit.int .i64 a1).wf = true) (hw2 : (Lit.int .i64 a2).wf = true) (h3 : Sees w A3 n3 1 (iv xs3)) (hc3 : n3 ≤ c3) (hw3 : ∀ x ∈ xs3, (Lit.int .i64 x).wf = true) (hup : n0 + n3 ≤ 1048576) :
    Calls Try.prog 11 #[.slice A0 n0 c0, .int .i64 a1, .int .i64 a2, .slice A3 n3 c3] w fun e w' => e = .returned (.bool true) ∧ Below w.heap.size w w' := by
  by_cases hin : 0 ≤ a1 ∧ a1 ≤ a2 ∧ a2 ≤ (n0 : Int)
  · obtain ⟨i, rfl⟩ : ∃ i : Nat, a1 = (i : Int) := ⟨a1.toNat, by omega⟩
    obtain ⟨j, rfl⟩ : ∃ j : Nat, a2 = (j : Int) := ⟨a2.toNat, by omega⟩
    have hij : i ≤ j := by omega
    have hj : j ≤ n0 := by omega
    clear hin
    go_enter Try.func11, Try.ntmps11
    go_wp2_with fail
    refine (ReplaceRest_ok A0 n0 c0 i j xs0 A3 n3 c3 xs3 _ h0 h3 hij hj (by omega) (by omega)).mono ?_
    rintro e w1 ⟨Az, cz, rfl, _, d1⟩
    have b1 : Below w.heap.size w w1 := (Below.refl w.heap.size w).trans (d1.mono (Below.refl w.heap.size w).size)
    have s1 : w.heap.size ≤ w1.heap.size := d1.size
    clear d1
    go_wp2_with fail
    go_ret
    exact ⟨rfl, b1⟩
  have hout : a2 < 0 ∨ (n0 : Int) < a2 ∨ a1 < 0 ∨ a2 < a1 := by omega
  have HO := hide hout
  clear hout hin
  by_cases g1 : 0 ≤ a1
  · by_cases g2 : a1 ≤ a2
    · have g3 : decide (a2 ≤ (n0 : Int)) = false := by have := HO.out; simp; omega
      go_enter Try.func11, Try.ntmps11
      go_wp2_with fail
      refine (ReplaceRest_bad A0 n0 c0 a1 a2 xs0 A3 n3 c3 _ h0 (by omega) HO.out).mono ?_
      rintro e w1 ⟨rfl, d1⟩
      have b1 : Below w.heap.size w w1 := (Below.refl w.heap.size w).trans (d1.mono (Below.refl w.heap.size w).size)
      have s1 : w.heap.size ≤ w1.heap.size := d1.size
      clear d1
      go_wp2_with fail
      go_ret
      exact ⟨rfl, b1⟩
    · go_enter Try.func11, Try.ntmps11
      go_wp2_with fail
      refine (ReplaceRest_bad A0 n0 c0 a1 a2 xs0 A3 n3 c3 _ h0 (by omega) HO.out).mono ?_
      rintro e w1 ⟨rfl, d1⟩
      have b1 : Below w.heap.size w w1 := (Below.refl w.heap.size w).trans (d1.mono (Below.refl w.heap.size w).size)
      have s1 : w.heap.size ≤ w1.heap.size := d1.size
      clear d1
      go_wp2_with fail
      go_ret
      exact ⟨rfl, b1⟩
  · go_enter Try.func11, Try.ntmps11
    go_wp2_with fail
    refine (ReplaceRest_bad A0 n0 c0 a1 a2 xs0 A3 n3 c3 _ h0 (by omega) HO.out).mono ?_
    rintro e w1 ⟨rfl, d1⟩
    have b1 : Below w.heap.size w w1 := (Below.refl w.heap.size w).trans (d1.mono (Below.refl w.heap.size w).size)
    have s1 : w.heap.size ≤ w1.heap.size := d1.size
    clear d1
    go_wp2_with fail
    go_ret
    exact ⟨rfl, b1⟩

set_option maxRecDepth 100000 in
theorem lifted (os : Os) (started : os.Started) (H : Type) (enc : TypeId × Value → H) (F : Stop.Interp) :
    ReturnsInHanded {} Try.checked os 11 .any ((Rows.OpenSpec.upto Rows.fnReplaceRestPanicsSpec).pre6 enc Try.prog Try.f11 Rows.fnReplaceRestPanicsUptoRow.domain false) (((Rows.OpenSpec.upto Rows.fnReplaceRestPanicsSpec).at F).post enc Try.prog Try.f11 false true false false) := by
  refine returnsInHanded_of_cond (C := Try.checked) (s := Rows.OpenSpec.upto Rows.fnReplaceRestPanicsSpec) (k := Rows.uptoSmall) rfl ownKnob_none started (by kernel_rfl) Try.func11
    (OpenSpec.witness (enc := enc) (C := Try.checked) (s := Rows.OpenSpec.upto Rows.fnReplaceRestPanicsSpec) (k := Rows.uptoSmall) rfl false ⟨#[], #[.slice none 0 0, .int .i64 0, .int .i64 0, .slice none 0 0], []⟩ 8 (by kernel_rfl) (by kernel_rfl) (by kernel_rfl)
      (x := ([.nil, .lit (.int .i64 0), .lit (.int .i64 0), .nil], [], [])) (by kernel_rfl) rfl (by kernel_rfl)) ?_
  intro W base args ds gs before hval0 hW hcnd hk _
  have hval : ∀ (j : Nat) t v, Try.f11.params[j]? = some t → args[j]? = some v → Value.okWide Try.prog W .any base t v := hval0
  have hW' := hW
  obtain ⟨p, q, hA0, hV, rfl, hfz, hnd⟩ := hW
  have hA : DataW.TrodAll enc Try.prog W 0 (fun _ => true) true Try.f11.params.toList args.toList ds p := hA0
  rw [Try.params11] at hA hval
  obtain ⟨v0, vs0, d0, ds0, p0, q0, hargs, rfl, rfl, h0, r0⟩ := trodAll_cons hA
  obtain ⟨v1, vs1, d1, ds1, p1, q1, rfl, rfl, rfl, h1, r1⟩ := trodAll_cons r0
  obtain ⟨v2, vs2, d2, ds2, p2, q2, rfl, rfl, rfl, h2, r2⟩ := trodAll_cons r1
  obtain ⟨v3, vs3, d3, ds3, p3, q3, rfl, rfl, rfl, h3, r3⟩ := trodAll_cons r2
  obtain ⟨rfl, rfl, rfl⟩ := trodAll_nil r3
  obtain rfl : args = #[v0, v1, v2, v3] := by cases args; simp_all
  obtain ⟨rfl, rfl⟩ := trodVars_none hV
  have k0 := h0
  have lt0 : ∀ x ∈ p0, x.block < W.heap.size := by obtain ⟨m, hm⟩ := k0; exact DataW.trod_lt m _ _ _ hm
  obtain ⟨A0, n0, c0, xs0, rfl, s0, c0c, _, w0, z0, u0⟩ := arg_ints (hval 0 22 v0 rfl rfl) h0
  obtain ⟨a1, rfl, rfl, rfl, w1⟩ := open_int Try.underlying3 (hval 1 3 v1 rfl rfl) h1
  obtain ⟨a2, rfl, rfl, rfl, w2⟩ := open_int Try.underlying3 (hval 2 3 v2 rfl rfl) h2
  have k3 := h3
  have lt3 : ∀ x ∈ p3, x.block < W.heap.size := by obtain ⟨m, hm⟩ := k3; exact DataW.trod_lt m _ _ _ hm
  obtain ⟨A3, n3, c3, xs3, rfl, s3, c3c, _, w3, z3, u3⟩ := arg_ints (hval 3 22 v3 rfl rfl) h3
  clear hA0 hval0
  have hup : n0 + n3 ≤ 1048576 := by
    have hk1 := of_decide_eq_true hk
    simp only [List.append_nil, Rows.uptoBulkAll] at hk1
    omega
  refine (walk A0 n0 c0 xs0 a1 a2 A3 n3 c3 xs3 W s0 c0c w0 w1 w2 s3 c3c w3 hup).mono fun e W' ⟨he, bel⟩ => ?_
  subst he
  exact ⟨_, rfl, _, _, _, [], _, [], hW', trodAll_mk1 (shut_bool Try.underlying4 _), (trodAll_cons_mk (Below.trod laidOut (by kernel_rfl) (of_decide_eq_true (by kernel_rfl)) k0 bel lt0) (trodAll_cons_mk (shut_int Try.underlying3 w1) (trodAll_cons_mk (shut_int Try.underlying3 w2) (trodAll_cons_mk (Below.trod laidOut (by kernel_rfl) (of_decide_eq_true (by kernel_rfl)) k3 bel lt3) trodAll_mk0)))), rfl, bel.frame _, fun h => by cases h⟩

theorem over : Rows.fnReplaceRestPanicsUptoRow.holds Try.pinned (Rows.OpenSpec.upto Rows.fnReplaceRestPanicsSpec) :=
  OpenClaim.holds_of_cond 11 Try.f11 rfl rfl rfl rfl rfl rfl rfl ⟨rfl, rfl, rfl, rfl, rfl⟩ rfl rfl rfl rfl rfl (by kernel_rfl) Try.func11 (by kernel_rfl)
    (of_decide_eq_true (by kernel_rfl)) (by unfold Func.isWrapper; first | (rw [if_pos (by decide +kernel)]; kernel_rfl) | (rw [if_neg (by decide +kernel)]; exact ⟨rfl, rfl⟩))
    (fun os started H enc _ F => lifted os started H enc F)

theorem proved : Rows.FnReplaceRestPanicsUptoSaid := over
end Go.Proofs.Ytbcjcceejddocaa.fnReplaceRestPanics
