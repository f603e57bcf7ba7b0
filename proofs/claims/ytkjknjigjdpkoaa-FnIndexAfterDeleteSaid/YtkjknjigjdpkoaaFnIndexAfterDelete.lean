/-
  Deleting all up to the first place of a number leaves one of it less; no condition.
-/
import Derived.Test.YtkjknjigjdpkoaaLift
import Derived.Test.YtkjknjigjdpkoaaDelete
import Derived.Test.YtkjknjigjdpkoaaIndex
namespace Go.Proofs.Ytkjknjigjdpkoaa.fnIndexAfterDelete
open Go.ChangeShapes Go.WideShapes Go.ChangeAt Go.RowKit
set_option linter.unusedVariables false

theorem times_pos {v : Int} {xs : List Int} (h : v ∈ xs) : 0 < times v xs := List.countP_pos_iff.2 ⟨v, h, by simp⟩
theorem times_zero {v : Int} {xs : List Int} (h : ¬ v ∈ xs) : times v xs = 0 := by
  rw [times, List.countP_eq_zero]
  intro a ha he
  exact h (by simpa using (beq_iff_eq.1 he) ▸ ha)
theorem first_split {v : Int} {xs : List Int} (h : v ∈ xs) : ∃ k, xs.idxOf v = k ∧ k < xs.length ∧ times v (xs.take 0 ++ xs.drop (k + 1)) + 1 = times v xs := by
  have hk : xs.idxOf v < xs.length := List.idxOf_lt_length_of_mem h
  refine ⟨_, rfl, hk, ?_⟩
  have hv : xs[xs.idxOf v] = v := List.getElem_idxOf hk
  have hn : ¬ v ∈ xs.take (xs.idxOf v) := by
    intro hm
    obtain ⟨j, hj, hje⟩ := List.mem_iff_getElem.1 hm
    rw [List.getElem_take] at hje
    rw [List.length_take] at hj
    have := List.not_of_lt_findIdx (p := (· == v)) (xs := xs) (i := j) (by show j < xs.idxOf v; omega)
    simp [hje] at this
  have e : xs = xs.take (xs.idxOf v) ++ (v :: xs.drop (xs.idxOf v + 1)) := by
    conv => lhs; rw [← List.take_append_drop (xs.idxOf v) xs, List.drop_eq_getElem_cons hk, hv]
  have h1 : times v xs = times v (xs.take (xs.idxOf v)) + (times v (xs.drop (xs.idxOf v + 1)) + 1) := by
    conv => lhs; rw [e]
    simp [times, List.countP_append]
  rw [h1, times_zero hn, List.take_zero, List.nil_append]
  omega

set_option maxHeartbeats 1000000 in
theorem walk (A0 : Option Addr) (n0 c0 : Nat) (xs0 : List Int) (a1 : Int) (w : World) (h0 : Sees w A0 n0 1 (iv xs0)) (hc0 : n0 ≤ c0) (hw0 : ∀ x ∈ xs0, (Lit.int .i64 x).wf = true) (hn0 : n0 ≤ 17592186043904) (hw1 : (Lit.int .i64 a1).wf = true) :
    Calls Try.prog 8 #[.slice A0 n0 c0, .int .i64 a1] w fun e w' => e = .returned (.bool true) ∧ Below w.heap.size w w' := by
  by_cases hv : a1 ∈ xs0
  · obtain ⟨k, hk, hkl, ht⟩ := first_split hv
    have hp := times_pos hv
    have hle := times_le a1 xs0
    have hxl := h0.ilen
    have hix : ix a1 xs0 = (k : Int) := by rw [ix, if_pos hv, hk]
    obtain ⟨t, htt⟩ : ∃ t : Nat, times a1 xs0 = t := ⟨_, rfl⟩
    rw [htt] at ht hp hle
    have e1 : ((t : Int) == 0) = false := by simp; omega
    have e2 : ((((t - 1 : Nat) : Int)) == (t : Int) - 1) = true := by simp; omega
    have HI := hide hix
    have HT := hide htt
    have HD : Hid (times a1 (xs0.take 0 ++ xs0.drop (k + 1)) = t - 1) := by show _ = _; omega
    have l1 : k < n0 := by omega
    have l2 : t ≤ n0 := by omega
    clear hix htt ht hk hv hxl hle hkl
    go_enter Try.func8, Try.ntmps8
    go_wp2_with fail
    refine (IndexInt_any A0 n0 c0 a1 xs0 _ h0 (by omega)).mono ?_
    rintro e w' ⟨rfl, rfl⟩
    rw [HI.out]
    go_wp2_with fail
    refine (countInt_any A0 n0 c0 a1 xs0 _ h0 (by omega)).mono ?_
    rintro e w' ⟨rfl, rfl⟩
    rw [HT.out]
    go_wp2_with fail
    refine (DeleteInts_at A0 n0 c0 0 (k + 1) xs0 _ h0 (by omega) (by omega) (by omega) 0 _ rfl (by omega)).mono ?_
    rintro e w1 ⟨Ay, cy, rfl, y, d1⟩
    have b1 : Below w.heap.size w w1 := (Below.refl w.heap.size w).trans (d1.mono (Below.refl w.heap.size w).size)
    have s1 : w.heap.size ≤ w1.heap.size := d1.size
    clear d1
    rw [Nat.zero_add] at y ⊢
    go_wp2_with fail
    refine (countInt_any Ay (n0 - (k + 1)) cy a1 _ _ y.sees (by omega)).mono ?_
    rintro e w' ⟨rfl, rfl⟩
    rw [HD.out]
    go_wp2_with fail
    refine (countInt_any A0 n0 c0 a1 xs0 _ (h0.below b1) (by omega)).mono ?_
    rintro e w' ⟨rfl, rfl⟩
    rw [HT.out]
    go_wp2_with fail
    go_ret
    exact ⟨rfl, b1⟩
  · have hix : ix a1 xs0 = -1 := by rw [ix, if_neg hv]
    have htt : times a1 xs0 = 0 := times_zero hv
    have HI := hide hix
    have HT := hide htt
    clear hix htt hv
    go_enter Try.func8, Try.ntmps8
    go_wp2_with fail
    refine (IndexInt_any A0 n0 c0 a1 xs0 _ h0 (by omega)).mono ?_
    rintro e w' ⟨rfl, rfl⟩
    rw [HI.out]
    go_wp2_with fail
    refine (countInt_any A0 n0 c0 a1 xs0 _ h0 (by omega)).mono ?_
    rintro e w' ⟨rfl, rfl⟩
    rw [HT.out]
    go_wp2_with fail
    go_ret
    exact ⟨rfl, Below.refl _ _⟩

set_option maxRecDepth 100000 in
theorem lifted (os : Os) (started : os.Started) (H : Type) (enc : TypeId × Value → H) :
    ReturnsInHanded {} Try.checked os 8 .any (Rows.fnIndexAfterDeleteSpec.pre6 enc Try.prog Try.f8 Rows.fnIndexAfterDeleteRow.domain false) (Rows.fnIndexAfterDeleteSpec.post enc Try.prog Try.f8 false true false false) := by
  refine returnsInHanded_of_change_sized (C := Try.checked) ownKnob_none started (by kernel_rfl) Try.func8
    (ChangeSpec.witness6 (enc := enc) (C := Try.checked) false ⟨#[], #[.slice none 0 0, .int .i64 0], []⟩ 8 (by kernel_rfl) (by kernel_rfl) (by kernel_rfl) (by kernel_rfl)) ?_
  intro W base args ds gs before hval0 hW hcnd hsz0 _
  have hsz : (DataW.weightsEach Try.prog (Try.f8.params.toList ++ Rows.fnIndexAfterDeleteSpec.plain.varTypes Try.prog) (ds ++ gs)).all (· ≤ reachBytes) = true := hsz0
  have hval : ∀ (j : Nat) t v, Try.f8.params[j]? = some t → args[j]? = some v → Value.okWide Try.prog W .any base t v := hval0
  have hW' := hW
  obtain ⟨p, q, hA0, hV, rfl, hfz, hnd⟩ := hW
  have hA : DataW.TrodAll enc Try.prog W 0 (fun _ => true) true Try.f8.params.toList args.toList ds p := hA0
  rw [Try.params8] at hA hval hsz
  obtain ⟨v0, vs0, d0, ds0, p0, q0, hargs, rfl, rfl, h0, r0⟩ := trodAll_cons hA
  obtain ⟨v1, vs1, d1, ds1, p1, q1, rfl, rfl, rfl, h1, r1⟩ := trodAll_cons r0
  obtain ⟨rfl, rfl, rfl⟩ := trodAll_nil r1
  obtain rfl : args = #[v0, v1] := by cases args; simp_all
  obtain ⟨rfl, rfl⟩ := trodVars_none hV
  have k0 := h0
  have lt0 : ∀ x ∈ p0, x.block < W.heap.size := by obtain ⟨m, hm⟩ := k0; exact DataW.trod_lt m _ _ _ hm
  obtain ⟨A0, n0, c0, xs0, rfl, s0, c0c, _, w0, z0, u0⟩ := arg_ints (hval 0 22 v0 rfl rfl) h0
  obtain ⟨a1, rfl, rfl, rfl, w1⟩ := open_int Try.underlying3 (hval 1 3 v1 rfl rfl) h1
  clear hA0 hval0 hsz0
  refine (walk A0 n0 c0 xs0 a1 W s0 c0c w0 (z0 (weights_arg hsz 0 rfl rfl)) w1).mono fun e W' ⟨he, bel⟩ => ?_
  subst he
  exact ⟨_, rfl, _, _, _, [], _, [], hW', trodAll_mk1 (shut_bool Try.underlying4 _), (trodAll_cons_mk (Below.trod laidOut (by kernel_rfl) (of_decide_eq_true (by kernel_rfl)) k0 bel lt0) (trodAll_cons_mk (shut_int Try.underlying3 w1) trodAll_mk0)), rfl, bel.frame _, fun h => by cases h⟩

theorem over : Rows.fnIndexAfterDeleteRow.holds Try.pinned (OpenSpec.ofChange Rows.fnIndexAfterDeleteSpec) :=
  OpenClaim.holds_of_wide 8 Try.f8 rfl rfl rfl rfl rfl rfl rfl ⟨rfl, rfl, rfl, rfl, rfl⟩ rfl rfl rfl rfl rfl (by kernel_rfl) Try.func8 (by kernel_rfl)
    (of_decide_eq_true (by kernel_rfl)) (by unfold Func.isWrapper; first | (rw [if_pos (by decide +kernel)]; kernel_rfl) | (rw [if_neg (by decide +kernel)]; exact ⟨rfl, rfl⟩))
    (fun os started H enc _ => lifted os started H enc)

theorem proved : Rows.FnIndexAfterDeleteSaid := over
end Go.Proofs.Ytkjknjigjdpkoaa.fnIndexAfterDelete
