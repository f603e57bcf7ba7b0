/-
  The list that slices.Repeat makes is a new one: what is written to it leaves its argument as it was; no condition.
-/
import Derived.Test.YtjmceapdokkleaaLift
import Derived.Test.YtjmceapdokkleaaRepeatW
namespace Go.Proofs.Ytjmceapdokkleaa.fnRepeatIsNew
open Go.ChangeShapes Go.WideShapes Go.ChangeAt Go.RowKit
set_option linter.unusedVariables false

set_option maxHeartbeats 2000000 in
set_option maxRecDepth 100000 in
theorem walk (A0 : Option Addr) (n0 c0 : Nat) (xs0 : List Int) (a1 : Int) (w : World) (h0 : Sees w A0 n0 1 (iv xs0)) (hc0 : n0 ≤ c0) (hw0 : ∀ x ∈ xs0, (Lit.int .i64 x).wf = true) (hn0 : n0 ≤ 17592186043904) (hw1 : (Lit.int .i64 a1).wf = true) :
    Calls Try.prog 7 #[.slice A0 n0 c0, .int .i64 a1] w fun e w' => e = .returned (.bool true) ∧ Below w.heap.size w w' := by
  by_cases g1 : a1 < 1
  · go_enter Try.func7, Try.ntmps7
    go_wp2_with fail
    go_ret
    exact ⟨rfl, Below.refl _ _⟩
  by_cases g2 : 100 < a1
  · go_enter Try.func7, Try.ntmps7
    go_wp2_with fail
    go_ret
    exact ⟨rfl, Below.refl _ _⟩
  by_cases g3 : 10000 < n0
  · go_enter Try.func7, Try.ntmps7
    go_wp2_with fail
    go_ret
    exact ⟨rfl, Below.refl _ _⟩
  obtain ⟨k, rfl⟩ : ∃ k : Nat, a1 = (k : Int) := ⟨a1.toNat, by omega⟩
  have hk1 : 1 ≤ k := by omega
  have hk2 : k ≤ 100 := by omega
  clear g1 g2
  obtain ⟨P, hP⟩ : ∃ P, n0 * k = P := ⟨_, rfl⟩
  have hPb : P ≤ 1000000 := by rw [← hP]; exact Nat.le_trans (Nat.mul_le_mul (show n0 ≤ 10000 by omega) hk2) (by omega)
  have hmul : (k : Int) * (n0 : Int) = (P : Int) := by rw [← hP, Int.natCast_mul, Int.mul_comm]
  have e1 : ((P : Int) == (P : Int)) = true := by simp
  have HP := hide hP
  have HM := hide hmul
  clear hP hmul
  obtain ⟨i0, hi0, hz0, hz1, hz2⟩ := info_parts intInfo
  go_enter Try.func7, Try.ntmps7
  go_wp2_with (at_builtin; refine halt_here ?_)
  refine ⟨wpList_append_sees w rfl _ _ _ rfl w.heap.size w.heap.size 3 i0 _ 1 8 Try.underlying23 hi0 hz0 hz1 hz2 rfl (by omega) none 0 0 [] rfl (Row.none_ w _ _ _ _ (Nat.le_refl _)) A0 n0 c0 (iv xs0) rfl h0 (iv_one _) (by unfold maxLen; omega) (by omega) (Nat.le_refl _) ?_⟩
  intro Ap cp w1 p o1 _
  rw [Nat.zero_add, List.nil_append] at p
  rw [Nat.zero_add]
  have b1 := o1.below (Nat.le_refl _) (Nat.le_refl _)
  have s1 : w.heap.size ≤ w1.heap.size := b1.size
  clear o1
  go_wp2_with fail
  refine (RepeatInts_ok Ap n0 cp k P xs0 _ p.sees (by omega) (by omega) HP.out (by omega)).mono ?_
  rintro e w2 ⟨Ay, cy, rfl, y, d2⟩
  have b2 : Below w.heap.size w w2 := b1.trans (d2.mono b1.size)
  have s2 : w1.heap.size ≤ w2.heap.size := d2.size
  replace p := p.next d2
  clear d2
  go_wp2_with fail
  have S1 := hide s1
  have hsz := y.2.2
  have HSZ := hide hsz
  clear hsz
  go_loopw [30] (fun t wr => ∃ (j : Nat) (zs : List Int), j ≤ P ∧ t = .int .i64 j ∧ Row wr w1.heap.size w2.heap.size 3 1 Ay P cy (iv zs) ∧ Row wr w.heap.size w1.heap.size 3 1 Ap n0 cp (iv xs0) ∧ Below w.heap.size w wr) (fun t _ => P - (intOf t).toNat)
  case atStart => exact ⟨0, _, Nat.zero_le _, rfl, y, p, b2⟩
  case round =>
    clear y p b2
    obtain ⟨j, zs, hj, rfl, y, p, b⟩ := hrel
    by_cases hlt : j < P
    · obtain ⟨g, x, rfl, hg1, hg2, -, hc, hf⟩ := y.int hlt
      go_wp2_with fail
      go_roundw
      case rel =>
        refine ⟨j + 1, zs.set j (bits .xor .i64 x 1), by omega, by go_num, ?_, p.far (p := ⟨g, j, none⟩) (.inr hg1) _, b.setCell (p := ⟨g, j, none⟩) (Nat.le_trans S1.out hg1) _⟩
        have hst := y.stored rfl j (.int .i64 (bits .xor .i64 x 1))
        rw [show (iv zs).set j (.int .i64 (bits .xor .i64 x 1)) = iv (zs.set j (bits .xor .i64 x 1)) by simp [iv, List.map_set]] at hst
        exact hst
      case measure => simp [intOf]; omega
    · have hm := HM.out
      have hwp : IntKind.i64.wrap (P : Int) = (P : Int) := by rw [IntKind.wrap_i64]; omega
      go_wp2_with fail
      clear hm hwp
      refine (sameInts_b Ap A0 n0 n0 cp c0 xs0 xs0 _ p.sees (h0.below b) (by omega) (by omega)).mono ?_
      rintro e w3 ⟨rfl, d3⟩
      rw [decide_eq_true rfl]
      have b3 : Below w.heap.size w w3 := b.trans (d3.mono b.size)
      clear d3
      go_wp2_with fail
      go_ret
      exact ⟨rfl, b3⟩

set_option maxRecDepth 100000 in
theorem lifted (os : Os) (started : os.Started) (H : Type) (enc : TypeId × Value → H) :
    ReturnsInHanded {} Try.checked os 7 .any (Rows.fnRepeatIsNewSpec.pre6 enc Try.prog Try.f7 Rows.fnRepeatIsNewRow.domain false) (Rows.fnRepeatIsNewSpec.post enc Try.prog Try.f7 false true false false) := by
  refine returnsInHanded_of_change_sized (C := Try.checked) ownKnob_none started (by kernel_rfl) Try.func7
    (ChangeSpec.witness6 (enc := enc) (C := Try.checked) false ⟨#[], #[.slice none 0 0, .int .i64 0], []⟩ 8 (by kernel_rfl) (by kernel_rfl) (by kernel_rfl) (by kernel_rfl)) ?_
  intro W base args ds gs before hval0 hW hcnd hsz0 _
  have hsz : (DataW.weightsEach Try.prog (Try.f7.params.toList ++ Rows.fnRepeatIsNewSpec.plain.varTypes Try.prog) (ds ++ gs)).all (· ≤ reachBytes) = true := hsz0
  have hval : ∀ (j : Nat) t v, Try.f7.params[j]? = some t → args[j]? = some v → Value.okWide Try.prog W .any base t v := hval0
  have hW' := hW
  obtain ⟨p, q, hA0, hV, rfl, hfz, hnd⟩ := hW
  have hA : DataW.TrodAll enc Try.prog W 0 (fun _ => true) true Try.f7.params.toList args.toList ds p := hA0
  rw [Try.params7] at hA hval hsz
  obtain ⟨v0, vs0, d0, ds0, p0, q0, hargs, rfl, rfl, h0, r0⟩ := trodAll_cons hA
  obtain ⟨v1, vs1, d1, ds1, p1, q1, rfl, rfl, rfl, h1, r1⟩ := trodAll_cons r0
  obtain ⟨rfl, rfl, rfl⟩ := trodAll_nil r1
  obtain rfl : args = #[v0, v1] := by cases args; simp_all
  obtain ⟨rfl, rfl⟩ := trodVars_none hV
  have k0 := h0
  have lt0 : ∀ x ∈ p0, x.block < W.heap.size := by obtain ⟨m, hm⟩ := k0; exact DataW.trod_lt m _ _ _ hm
  obtain ⟨A0, n0, c0, xs0, rfl, s0, c0c, _, w0, z0, u0⟩ := arg_ints (hval 0 23 v0 rfl rfl) h0
  obtain ⟨a1, rfl, rfl, rfl, w1⟩ := open_int Try.underlying3 (hval 1 3 v1 rfl rfl) h1
  clear hA0 hval0 hsz0
  refine (walk A0 n0 c0 xs0 a1 W s0 c0c w0 (z0 (weights_arg hsz 0 rfl rfl)) w1).mono fun e W' ⟨he, bel⟩ => ?_
  subst he
  exact ⟨_, rfl, _, _, _, [], _, [], hW', trodAll_mk1 (shut_bool Try.underlying4 _), (trodAll_cons_mk (Below.trod laidOut (by kernel_rfl) (of_decide_eq_true (by kernel_rfl)) k0 bel lt0) (trodAll_cons_mk (shut_int Try.underlying3 w1) trodAll_mk0)), rfl, bel.frame _, fun h => by cases h⟩

theorem over : Rows.fnRepeatIsNewRow.holds Try.pinned (OpenSpec.ofChange Rows.fnRepeatIsNewSpec) :=
  OpenClaim.holds_of_wide 7 Try.f7 rfl rfl rfl rfl rfl rfl rfl ⟨rfl, rfl, rfl, rfl, rfl⟩ rfl rfl rfl rfl rfl (by kernel_rfl) Try.func7 (by kernel_rfl)
    (of_decide_eq_true (by kernel_rfl)) (by unfold Func.isWrapper; first | (rw [if_pos (by decide +kernel)]; kernel_rfl) | (rw [if_neg (by decide +kernel)]; exact ⟨rfl, rfl⟩))
    (fun os started H enc _ => lifted os started H enc)

theorem proved : Rows.FnRepeatIsNewSaid := over
end Go.Proofs.Ytjmceapdokkleaa.fnRepeatIsNew
