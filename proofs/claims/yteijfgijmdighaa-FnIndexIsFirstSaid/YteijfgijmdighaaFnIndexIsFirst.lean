/-
  slices.Index is the first index with the number, or -1, and slices.Contains tells whether there is one; no condition.
-/
import Derived.Test.YteijfgijmdighaaLift
import Derived.Test.YteijfgijmdighaaSmall
import Derived.Test.YteijfgijmdighaaIndex
import Derived.Test.YteijfgijmdighaaMem
namespace Go.Proofs.Yteijfgijmdighaa.fnIndexIsFirst
open Go.ChangeShapes Go.WideShapes Go.ChangeAt Go.RowKit
set_option linter.unusedVariables false

theorem times_pos {v : Int} {xs : List Int} (h : v ∈ xs) : 0 < times v xs := List.countP_pos_iff.2 ⟨v, h, by simp⟩
theorem times_zero {v : Int} {xs : List Int} (h : ¬ v ∈ xs) : times v xs = 0 := by
  rw [times, List.countP_eq_zero]
  intro a ha he
  exact h (by simpa using (beq_iff_eq.1 he) ▸ ha)
theorem first_at {v : Int} {xs : List Int} (h : v ∈ xs) : ∃ k : Nat, ix v xs = (k : Int) ∧ xs[k]? = some v ∧ times v (xs.take k) = 0 := by
  have hk : xs.idxOf v < xs.length := List.idxOf_lt_length_of_mem h
  refine ⟨xs.idxOf v, by rw [ix, if_pos h], by rw [List.getElem?_eq_getElem hk, List.getElem_idxOf hk], times_zero fun hm => ?_⟩
  obtain ⟨j, hj, hje⟩ := List.mem_iff_getElem.1 hm
  rw [List.getElem_take] at hje
  rw [List.length_take] at hj
  have := List.not_of_lt_findIdx (p := (· == v)) (xs := xs) (i := j) (by show j < xs.idxOf v; omega)
  simp [hje] at this

set_option maxHeartbeats 1000000 in
theorem walk (A0 : Option Addr) (n0 c0 : Nat) (xs0 : List Int) (a1 : Int) (w : World) (h0 : Sees w A0 n0 1 (iv xs0)) (hc0 : n0 ≤ c0) (hw0 : ∀ x ∈ xs0, (Lit.int .i64 x).wf = true) (hn0 : n0 ≤ 17592186043904) (hw1 : (Lit.int .i64 a1).wf = true) :
    Calls Try.prog 6 #[.slice A0 n0 c0, .int .i64 a1] w fun e w' => e = .returned (.bool true) ∧ Below w.heap.size w w' := by
  by_cases hv : a1 ∈ xs0
  · obtain ⟨k, hix, hkv, hkt⟩ := first_at hv
    have hp := times_pos hv
    have hle := times_le a1 xs0
    have hxl := h0.ilen
    have hkn : k < n0 := by have := (List.getElem?_eq_some_iff.1 hkv).1; omega
    obtain ⟨t, htt⟩ : ∃ t : Nat, times a1 xs0 = t := ⟨_, rfl⟩
    rw [htt] at hp hle
    obtain ⟨ad, x, rfl, _, HXk, hcx⟩ := h0.int hkn
    obtain rfl : x = a1 := Option.some.inj (HXk.out.symm.trans hkv)
    have e1 : (x == x) = true := by simp
    have l2 : t ≤ n0 := by omega
    have v1 : Hid (Sees w (some ad) k 1 (iv (xs0.take k))) := by
      have t1 := h0.cutA (k := 0) (m := k) (c := c0) (by omega) hc0
      rw [cutA_zero, Nat.zero_mul, List.drop_zero, Nat.mul_one, ← iv_take] at t1
      exact t1
    have HI := hide hix
    have HT := hide htt
    have HK := hide hkt
    clear hix htt hkt hv hxl hle hkv HXk
    obtain ⟨i0, hi0, hz0, hz1, hz2⟩ := info_parts intInfo
    have q1 := fun W => run_slice_hi (P := Try.prog) W 22 3 i0 Try.underlying22 hi0 (some ad) n0 c0 .i64 k (by omega)
    go_enter Try.func6, Try.ntmps6
    go_wp2_with fail
    refine (IndexInt_any (some ad) n0 c0 x xs0 _ h0 (by omega)).mono ?_
    rintro e w' ⟨rfl, rfl⟩
    rw [HI.out]
    go_wp2_with fail
    refine (ContainsInt_any (some ad) n0 c0 x xs0 _ h0 (by omega)).mono ?_
    rintro e w' ⟨rfl, rfl⟩
    rw [HI.out, decide_eq_true (show (0 : Int) ≤ (k : Int) by omega)]
    go_wp2_with fail
    refine (countInt_any (some ad) n0 c0 x xs0 _ h0 (by omega)).mono ?_
    rintro e w' ⟨rfl, rfl⟩
    rw [HT.out]
    go_wp2_with fail
    refine (countInt_any (some ad) k c0 x (xs0.take k) _ v1.out (by omega)).mono ?_
    rintro e w' ⟨rfl, rfl⟩
    rw [HK.out]
    go_wp2_with fail
    go_ret
    exact ⟨rfl, Below.refl _ _⟩
  · have hix : ix a1 xs0 = -1 := by rw [ix, if_neg hv]
    have htt : times a1 xs0 = 0 := times_zero hv
    have HI := hide hix
    have HT := hide htt
    clear hix htt hv
    go_enter Try.func6, Try.ntmps6
    go_wp2_with fail
    refine (IndexInt_any A0 n0 c0 a1 xs0 _ h0 (by omega)).mono ?_
    rintro e w' ⟨rfl, rfl⟩
    rw [HI.out]
    go_wp2_with fail
    refine (ContainsInt_any A0 n0 c0 a1 xs0 _ h0 (by omega)).mono ?_
    rintro e w' ⟨rfl, rfl⟩
    rw [HI.out, decide_eq_false (show ¬ (0 : Int) ≤ -1 by omega)]
    go_wp2_with fail
    refine (countInt_any A0 n0 c0 a1 xs0 _ h0 (by omega)).mono ?_
    rintro e w' ⟨rfl, rfl⟩
    rw [HT.out]
    go_wp2_with fail
    go_ret
    exact ⟨rfl, Below.refl _ _⟩

set_option maxRecDepth 100000 in
theorem lifted (os : Os) (started : os.Started) (H : Type) (enc : TypeId × Value → H) :
    ReturnsInHanded {} Try.checked os 6 .any (Rows.fnIndexIsFirstSpec.pre6 enc Try.prog Try.f6 Rows.fnIndexIsFirstRow.domain false) (Rows.fnIndexIsFirstSpec.post enc Try.prog Try.f6 false true false false) := by
  refine returnsInHanded_of_change_sized (C := Try.checked) ownKnob_none started (by kernel_rfl) Try.func6
    (ChangeSpec.witness6 (enc := enc) (C := Try.checked) false ⟨#[], #[.slice none 0 0, .int .i64 0], []⟩ 8 (by kernel_rfl) (by kernel_rfl) (by kernel_rfl) (by kernel_rfl)) ?_
  intro W base args ds gs before hval0 hW hcnd hsz0 _
  have hsz : (DataW.weightsEach Try.prog (Try.f6.params.toList ++ Rows.fnIndexIsFirstSpec.plain.varTypes Try.prog) (ds ++ gs)).all (· ≤ reachBytes) = true := hsz0
  have hval : ∀ (j : Nat) t v, Try.f6.params[j]? = some t → args[j]? = some v → Value.okWide Try.prog W .any base t v := hval0
  have hW' := hW
  obtain ⟨p, q, hA0, hV, rfl, hfz, hnd⟩ := hW
  have hA : DataW.TrodAll enc Try.prog W 0 (fun _ => true) true Try.f6.params.toList args.toList ds p := hA0
  rw [Try.params6] at hA hval hsz
  obtain ⟨v0, vs0, d0, ds0, p0, q0, hargs, rfl, rfl, h0, r0⟩ := trodAll_cons hA
  obtain ⟨v1, vs1, d1, ds1, p1, q1, rfl, rfl, rfl, h1, r1⟩ := trodAll_cons r0
  obtain ⟨rfl, rfl, rfl⟩ := trodAll_nil r1
  obtain rfl : args = #[v0, v1] := by cases args; simp_all
  obtain ⟨rfl, rfl⟩ := trodVars_none hV
  have k0 := h0
  have lt0 : ∀ x ∈ p0, x.block < W.heap.size := by obtain ⟨m, hm⟩ := k0; exact DataW.trod_lt m _ _ _ hm
  obtain ⟨A0, n0, c0, xs0, rfl, s0, c0c, _, w0, z0, u0⟩ := arg_ints (hval 0 22 v0 rfl rfl) h0
  obtain ⟨a1, rfl, rfl, rfl, w1⟩ := open_int Try.underlying3 (hval 1 3 v1 rfl rfl) h1
  clear hA0 hval0 hsz0
  refine (walk A0 n0 c0 xs0 a1 W s0 c0c w0 (z0 (weights_arg hsz 0 rfl rfl)) w1).mono fun e W' ⟨he, bel⟩ => ?_
  subst he
  exact ⟨_, rfl, _, _, _, [], _, [], hW', trodAll_mk1 (shut_bool Try.underlying4 _), (trodAll_cons_mk (Below.trod laidOut (by kernel_rfl) (of_decide_eq_true (by kernel_rfl)) k0 bel lt0) (trodAll_cons_mk (shut_int Try.underlying3 w1) trodAll_mk0)), rfl, bel.frame _, fun h => by cases h⟩

theorem over : Rows.fnIndexIsFirstRow.holds Try.pinned (OpenSpec.ofChange Rows.fnIndexIsFirstSpec) :=
  OpenClaim.holds_of_wide 6 Try.f6 rfl rfl rfl rfl rfl rfl rfl ⟨rfl, rfl, rfl, rfl, rfl⟩ rfl rfl rfl rfl rfl (by kernel_rfl) Try.func6 (by kernel_rfl)
    (of_decide_eq_true (by kernel_rfl)) (by unfold Func.isWrapper; first | (rw [if_pos (by decide +kernel)]; kernel_rfl) | (rw [if_neg (by decide +kernel)]; exact ⟨rfl, rfl⟩))
    (fun os started H enc _ => lifted os started H enc)

theorem proved : Rows.FnIndexIsFirstSaid := over
end Go.Proofs.Yteijfgijmdighaa.fnIndexIsFirst
