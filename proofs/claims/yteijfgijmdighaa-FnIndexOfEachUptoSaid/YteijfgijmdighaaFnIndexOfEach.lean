/-
  slices.Index of each number of the list is its first place, and slices.IndexFunc by keys the same; for arguments of bulk at most 1048576.
-/
import Derived.Test.YteijfgijmdighaaLift
import Derived.Test.YteijfgijmdighaaKeys
namespace Go.Proofs.Yteijfgijmdighaa.fnIndexOfEach
open Go.ChangeShapes Go.WideShapes Go.ChangeAt Go.RowKit
set_option linter.unusedVariables false

theorem times_pos {v : Int} {xs : List Int} (h : v ∈ xs) : 0 < times v xs := List.countP_pos_iff.2 ⟨v, h, by simp⟩
theorem times_zero {v : Int} {xs : List Int} (h : ¬ v ∈ xs) : times v xs = 0 := by
  rw [times, List.countP_eq_zero]
  intro a ha he
  exact h (by simpa using (beq_iff_eq.1 he) ▸ ha)
theorem first_at {v : Int} {xs : List Int} (h : v ∈ xs) : ∃ k : Nat, ix v xs = (k : Int) ∧ xs[k]? = some v ∧ times v (xs.take k) = 0 := by
  have hk : xs.idxOf v < xs.length := List.idxOf_lt_length_of_mem h
  refine ⟨xs.idxOf v, by rw [ix, if_pos h], by rw [List.getElem?_eq_getElem hk, List.getElem_idxOf hk], times_zero fun hm => ?_⟩
  obtain ⟨j, hj, hje⟩ := List.mem_iff_getElem.1 hm
  rw [List.getElem_take] at hje
  rw [List.length_take] at hj
  have := List.not_of_lt_findIdx (p := (· == v)) (xs := xs) (i := j) (by show j < xs.idxOf v; omega)
  simp [hje] at this

set_option maxHeartbeats 1000000 in
set_option maxRecDepth 100000 in
theorem walk (A0 : Option Addr) (n0 c0 : Nat) (xs0 : List Int) (w : World) (h0 : Sees w A0 n0 1 (iv xs0)) (hc0 : n0 ≤ c0) (hw0 : ∀ x ∈ xs0, (Lit.int .i64 x).wf = true) (hup : n0 ≤ 1048576) :
    Calls Try.prog 7 #[.slice A0 n0 c0] w fun e w' => e = .returned (.bool true) ∧ Below w.heap.size w w' := by
  have HX := hide h0.ilen
  go_enter Try.func7, Try.ntmps7
  go_wp2_with fail
  refine (numbered_any A0 n0 c0 xs0 _ h0 (by omega)).mono ?_
  rintro e w1 ⟨Ay, cy, rfl, y, d1⟩
  have b1 : Below w.heap.size w w1 := (Below.refl w.heap.size w).trans (d1.mono (Below.refl w.heap.size w).size)
  have s1 : w.heap.size ≤ w1.heap.size := d1.size
  clear d1
  have x := h0.below b1
  have HK : Hid (keys (numd xs0 n0) = xs0) := by rw [← HX.out]; exact numd_keys xs0
  go_wp2_with fail
  go_loopw [11] (fun t wr => ∃ k : Nat, k ≤ n0 ∧ t = .int .i64 k ∧ Row wr w.heap.size w1.heap.size 52 2 Ay n0 cy (pv (numd xs0 n0)) ∧ Below w.heap.size w wr) (fun t _ => n0 - (intOf t).toNat)
  case atStart => exact ⟨0, Nat.zero_le _, rfl, y, b1⟩
  case round =>
    clear y x
    obtain ⟨k, hk, rfl, y, hb⟩ := hrel
    by_cases hlt : k < n0
    · have x := h0.below hb
      obtain ⟨ad, v, rfl, _, HV, hcv⟩ := x.int hlt
      have hm : v ∈ xs0 := List.mem_of_getElem? HV.out
      obtain ⟨i, hix, hiv, hit⟩ := first_at hm
      have hik : i ≤ k := by
        rcases Nat.lt_or_ge k i with h | h
        · exfalso
          have h4 : v ∈ xs0.take i := by
            have := HV.out
            rw [List.mem_iff_getElem?]
            exact ⟨k, by rw [List.getElem?_take, if_pos h]; exact this⟩
          have := times_pos h4
          omega
        · exact h
      obtain ⟨ad2, v2, hA2, _, HV2, hcv2⟩ := x.int (show i < n0 by omega)
      obtain rfl := Option.some.inj hA2
      obtain rfl : v2 = v := Option.some.inj (HV2.out.symm.trans hiv)
      have e1 : (v2 != v2) = false := by simp
      have e2 : ((i : Int) != (i : Int)) = false := by simp
      have HI := hide hix
      clear hix hiv hm hA2 HV2
      clear hit
      have HB := hide hb
      have hsz := hb.size
      have hys := y.sees
      have Hy := hide y
      clear hb y
      go_wp2_with fail
      refine (IndexInt_any (some ad) n0 c0 v2 xs0 _ x (by omega)).mono ?_
      rintro e w' ⟨rfl, rfl⟩
      rw [HI.out]
      go_wp2_with fail
      refine (IndexKey_any Ay n0 cy v2 (numd xs0 n0) _ hys (by omega)).mono ?_
      rintro e w2 ⟨rfl, d2⟩
      rw [HK.out, HI.out]
      have x2 := x.below d2
      have y2 := Hy.out.next d2
      have hb2 : Below w.heap.size w w2 := HB.out.trans (d2.mono hsz)
      clear d2 hys Hy x
      go_wp2_with fail
      refine (ContainsInt_any (some ad) n0 c0 v2 xs0 _ x2 (by omega)).mono ?_
      rintro e w' ⟨rfl, rfl⟩
      rw [HI.out, decide_eq_true (show (0 : Int) ≤ (i : Int) by omega)]
      go_wp2_with fail
      go_roundw
      case rel => exact ⟨k + 1, by omega, by go_num, y2, hb2⟩
      case measure => simp [intOf]; omega
    · go_wp2_with fail
      refine (IndexInt_any none 0 0 0 [] _ Sees.nil_ (by omega)).mono ?_
      rintro e w' ⟨rfl, rfl⟩
      rw [show ix 0 [] = -1 from rfl]
      go_wp2_with fail
      refine (IndexKey_any none 0 0 0 [] _ Sees.nil_ (by omega)).mono ?_
      rintro e w2 ⟨rfl, d2⟩
      rw [show ix 0 (keys []) = -1 from rfl]
      have hb2 : Below w.heap.size w w2 := hb.trans (d2.mono hb.size)
      clear d2
      go_wp2_with fail
      go_ret
      exact ⟨rfl, hb2⟩

set_option maxRecDepth 100000 in
theorem lifted (os : Os) (started : os.Started) (H : Type) (enc : TypeId × Value → H) (F : Stop.Interp) :
    ReturnsInHanded {} Try.checked os 7 .any ((Rows.OpenSpec.upto Rows.fnIndexOfEachSpec).pre6 enc Try.prog Try.f7 Rows.fnIndexOfEachUptoRow.domain false) (((Rows.OpenSpec.upto Rows.fnIndexOfEachSpec).at F).post enc Try.prog Try.f7 false true false false) := by
  refine returnsInHanded_of_cond (C := Try.checked) (s := Rows.OpenSpec.upto Rows.fnIndexOfEachSpec) (k := Rows.uptoSmall) rfl ownKnob_none started (by kernel_rfl) Try.func7
    (OpenSpec.witness (enc := enc) (C := Try.checked) (s := Rows.OpenSpec.upto Rows.fnIndexOfEachSpec) (k := Rows.uptoSmall) rfl false ⟨#[], #[.slice none 0 0], []⟩ 8 (by kernel_rfl) (by kernel_rfl) (by kernel_rfl)
      (x := ([.nil], [], [])) (by kernel_rfl) rfl (by kernel_rfl)) ?_
  intro W base args ds gs before hval0 hW hcnd hk _
  have hval : ∀ (j : Nat) t v, Try.f7.params[j]? = some t → args[j]? = some v → Value.okWide Try.prog W .any base t v := hval0
  have hW' := hW
  obtain ⟨p, q, hA0, hV, rfl, hfz, hnd⟩ := hW
  have hA : DataW.TrodAll enc Try.prog W 0 (fun _ => true) true Try.f7.params.toList args.toList ds p := hA0
  rw [Try.params7] at hA hval
  obtain ⟨v0, vs0, d0, ds0, p0, q0, hargs, rfl, rfl, h0, r0⟩ := trodAll_cons hA
  obtain ⟨rfl, rfl, rfl⟩ := trodAll_nil r0
  obtain rfl : args = #[v0] := by cases args; simp_all
  obtain ⟨rfl, rfl⟩ := trodVars_none hV
  have k0 := h0
  have lt0 : ∀ x ∈ p0, x.block < W.heap.size := by obtain ⟨m, hm⟩ := k0; exact DataW.trod_lt m _ _ _ hm
  obtain ⟨A0, n0, c0, xs0, rfl, s0, c0c, _, w0, z0, u0⟩ := arg_ints (hval 0 22 v0 rfl rfl) h0
  clear hA0 hval0
  have hup : n0 ≤ 1048576 := by
    have hk1 := of_decide_eq_true hk
    simp only [List.append_nil, Rows.uptoBulkAll] at hk1
    omega
  refine (walk A0 n0 c0 xs0 W s0 c0c w0 hup).mono fun e W' ⟨he, bel⟩ => ?_
  subst he
  exact ⟨_, rfl, _, _, _, [], _, [], hW', trodAll_mk1 (shut_bool Try.underlying4 _), (trodAll_cons_mk (Below.trod laidOut (by kernel_rfl) (of_decide_eq_true (by kernel_rfl)) k0 bel lt0) trodAll_mk0), rfl, bel.frame _, fun h => by cases h⟩

theorem over : Rows.fnIndexOfEachUptoRow.holds Try.pinned (Rows.OpenSpec.upto Rows.fnIndexOfEachSpec) :=
  OpenClaim.holds_of_cond 7 Try.f7 rfl rfl rfl rfl rfl rfl rfl ⟨rfl, rfl, rfl, rfl, rfl⟩ rfl rfl rfl rfl rfl (by kernel_rfl) Try.func7 (by kernel_rfl)
    (of_decide_eq_true (by kernel_rfl)) (by unfold Func.isWrapper; first | (rw [if_pos (by decide +kernel)]; kernel_rfl) | (rw [if_neg (by decide +kernel)]; exact ⟨rfl, rfl⟩))
    (fun os started H enc _ F => lifted os started H enc F)

theorem proved : Rows.FnIndexOfEachUptoSaid := over
end Go.Proofs.Yteijfgijmdighaa.fnIndexOfEach
