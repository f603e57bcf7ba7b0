/-
  Behind slices.Insert the inserted numbers stand at the index, the others ahead of it or as many places later; for arguments of bulk at most 1048576.
-/
import Derived.Test.YtbcjcceejddocaaLift
import Derived.Test.YtbcjcceejddocaaInsW
namespace Go.Proofs.Ytbcjcceejddocaa.fnInsertPlaces
open Go.ChangeShapes Go.WideShapes Go.ChangeAt Go.RowKit
set_option linter.unusedVariables false

theorem ins_low {xs vs : List Int} {i k : Nat} (hi : i ≤ xs.length) (hk : k < i) : (ins xs i vs i)[k]? = xs[k]? := by
  have hl : (xs.take i).length = i := by rw [List.length_take]; omega
  rw [ins, List.append_assoc, List.getElem?_append_left (by omega), List.getElem?_take, if_pos hk]
theorem ins_mid {xs vs : List Int} {i k : Nat} (hi : i ≤ xs.length) (hk : k < vs.length) : (ins xs i vs i)[i + k]? = vs[k]? := by
  have hl : (xs.take i).length = i := by rw [List.length_take]; omega
  rw [ins, List.append_assoc, List.getElem?_append_right (by omega), hl, Nat.add_sub_cancel_left, List.getElem?_append_left hk]
theorem ins_high {xs vs : List Int} {i k : Nat} (hi : i ≤ xs.length) (hk : i ≤ k) : (ins xs i vs i)[k + vs.length]? = xs[k]? := by
  have hl : (xs.take i ++ vs).length = i + vs.length := by rw [List.length_append, List.length_take]; omega
  rw [ins, List.getElem?_append_right (by omega), hl, List.getElem?_drop, show i + (k + vs.length - (i + vs.length)) = k by omega]

set_option maxHeartbeats 1000000 in
theorem walk (A0 : Option Addr) (n0 c0 : Nat) (xs0 : List Int) (a1 : Int) (A2 : Option Addr) (n2 c2 : Nat) (xs2 : List Int) (w : World) (h0 : Sees w A0 n0 1 (iv xs0)) (hc0 : n0 ≤ c0) (hw0 : ∀ x ∈ xs0, (Lit.int .i64 x).wf = true) (hw1 : (Lit.int .i64 a1).wf = true) (h2 : Sees w A2 n2 1 (iv xs2)) (hc2 : n2 ≤ c2) (hw2 : ∀ x ∈ xs2, (Lit.int .i64 x).wf = true) (hup : n0 + n2 ≤ 1048576) :
    Calls Try.prog 5 #[.slice A0 n0 c0, .int .i64 a1, .slice A2 n2 c2] w fun e w' => e = .returned (.bool true) ∧ Below w.heap.size w w' := by
  by_cases g1 : a1 < 0
  · go_enter Try.func5, Try.ntmps5
    go_wp2_with fail
    go_ret
    exact ⟨rfl, Below.refl _ _⟩
  by_cases g2 : (n0 : Int) < a1
  · go_enter Try.func5, Try.ntmps5
    go_wp2_with fail
    go_ret
    exact ⟨rfl, Below.refl _ _⟩
  obtain ⟨i, rfl⟩ : ∃ i : Nat, a1 = (i : Int) := ⟨a1.toNat, by omega⟩
  have hi : i ≤ n0 := by omega
  clear g1 g2
  have HX := hide h0.ilen
  have HV := hide h2.ilen
  have e1 : (((n0 + n2 : Nat) : Int) != (n0 : Int) + (n2 : Int)) = false := by simp
  go_enter Try.func5, Try.ntmps5
  go_wp2_with fail
  refine (InsertInts_at A0 n0 c0 i xs0 A2 n2 c2 xs2 _ h0 h2 (by omega) (by omega) _ rfl).mono ?_
  rintro e w1 ⟨Ay, cy, rfl, y, d1⟩
  have b1 : Below w.heap.size w w1 := (Below.refl w.heap.size w).trans (d1.mono (Below.refl w.heap.size w).size)
  have s1 : w.heap.size ≤ w1.heap.size := d1.size
  clear d1
  go_wp2_with fail
  have x := h0.below b1
  have v := h2.below b1
  go_loop [43] (fun t => ∃ k : Nat, k ≤ n0 ∧ t = .int .i64 k) (fun t => n0 - (intOf t).toNat)
  case atStart => exact ⟨0, Nat.zero_le _, rfl⟩
  case round =>
    obtain ⟨k, hk, rfl⟩ := hrel
    by_cases hlt : k < n0
    · obtain ⟨ad, u, rfl, _, HU, hc⟩ := x.int hlt
      by_cases hki : k < i
      · obtain ⟨bd, z, rfl, _, HZ, hd⟩ := y.sees.int (show k < n0 + n2 by omega)
        obtain rfl : z = u := by
          have h1 := HZ.out
          rw [ins_low (by rw [HX.out]; omega) hki, HU.out] at h1
          exact (Option.some.inj h1).symm
        have e2 : (z != z) = false := by simp
        go_wp2_with fail
        go_round
        case rel => exact ⟨k + 1, by omega, by go_num⟩
        case measure => simp [intOf]; omega
      · obtain ⟨bd, z, rfl, _, HZ, hd⟩ := y.sees.int (show k + n2 < n0 + n2 by omega)
        obtain rfl : z = u := by
          have h1 := HZ.out
          have h2 := ins_high (vs := xs2) (i := i) (k := k) (by rw [HX.out]; omega) (by omega)
          rw [HV.out] at h2
          rw [h2, HU.out] at h1
          exact (Option.some.inj h1).symm
        have e2 : (z != z) = false := by simp
        go_wp2_with fail
        go_round
        case rel => exact ⟨k + 1, by omega, by go_num⟩
        case measure => simp [intOf]; omega
    · go_wp2_with fail
      go_loop [65] (fun t => ∃ k : Nat, k ≤ n2 ∧ t = .int .i64 k) (fun t => n2 - (intOf t).toNat)
      case atStart => exact ⟨0, Nat.zero_le _, rfl⟩
      case round =>
        obtain ⟨k, hk, rfl⟩ := hrel
        by_cases hlt : k < n2
        · obtain ⟨ad, u, rfl, _, HU, hc⟩ := v.int hlt
          obtain ⟨bd, z, rfl, _, HZ, hd⟩ := y.sees.int (show i + k < n0 + n2 by omega)
          obtain rfl : z = u := by
            have h1 := HZ.out
            rw [ins_mid (by rw [HX.out]; omega) (by rw [HV.out]; omega), HU.out] at h1
            exact (Option.some.inj h1).symm
          have e2 : (z != z) = false := by simp
          go_wp2_with fail
          go_round
          case rel => exact ⟨k + 1, by omega, by go_num⟩
          case measure => simp [intOf]; omega
        · go_wp2_with fail
          go_ret
          exact ⟨rfl, b1⟩

set_option maxRecDepth 100000 in
theorem lifted (os : Os) (started : os.Started) (H : Type) (enc : TypeId × Value → H) (F : Stop.Interp) :
    ReturnsInHanded {} Try.checked os 5 .any ((Rows.OpenSpec.upto Rows.fnInsertPlacesSpec).pre6 enc Try.prog Try.f5 Rows.fnInsertPlacesUptoRow.domain false) (((Rows.OpenSpec.upto Rows.fnInsertPlacesSpec).at F).post enc Try.prog Try.f5 false true false false) := by
  refine returnsInHanded_of_cond (C := Try.checked) (s := Rows.OpenSpec.upto Rows.fnInsertPlacesSpec) (k := Rows.uptoSmall) rfl ownKnob_none started (by kernel_rfl) Try.func5
    (OpenSpec.witness (enc := enc) (C := Try.checked) (s := Rows.OpenSpec.upto Rows.fnInsertPlacesSpec) (k := Rows.uptoSmall) rfl false ⟨#[], #[.slice none 0 0, .int .i64 0, .slice none 0 0], []⟩ 8 (by kernel_rfl) (by kernel_rfl) (by kernel_rfl)
      (x := ([.nil, .lit (.int .i64 0), .nil], [], [])) (by kernel_rfl) rfl (by kernel_rfl)) ?_
  intro W base args ds gs before hval0 hW hcnd hk _
  have hval : ∀ (j : Nat) t v, Try.f5.params[j]? = some t → args[j]? = some v → Value.okWide Try.prog W .any base t v := hval0
  have hW' := hW
  obtain ⟨p, q, hA0, hV, rfl, hfz, hnd⟩ := hW
  have hA : DataW.TrodAll enc Try.prog W 0 (fun _ => true) true Try.f5.params.toList args.toList ds p := hA0
  rw [Try.params5] at hA hval
  obtain ⟨v0, vs0, d0, ds0, p0, q0, hargs, rfl, rfl, h0, r0⟩ := trodAll_cons hA
  obtain ⟨v1, vs1, d1, ds1, p1, q1, rfl, rfl, rfl, h1, r1⟩ := trodAll_cons r0
  obtain ⟨v2, vs2, d2, ds2, p2, q2, rfl, rfl, rfl, h2, r2⟩ := trodAll_cons r1
  obtain ⟨rfl, rfl, rfl⟩ := trodAll_nil r2
  obtain rfl : args = #[v0, v1, v2] := by cases args; simp_all
  obtain ⟨rfl, rfl⟩ := trodVars_none hV
  have k0 := h0
  have lt0 : ∀ x ∈ p0, x.block < W.heap.size := by obtain ⟨m, hm⟩ := k0; exact DataW.trod_lt m _ _ _ hm
  obtain ⟨A0, n0, c0, xs0, rfl, s0, c0c, _, w0, z0, u0⟩ := arg_ints (hval 0 22 v0 rfl rfl) h0
  obtain ⟨a1, rfl, rfl, rfl, w1⟩ := open_int Try.underlying3 (hval 1 3 v1 rfl rfl) h1
  have k2 := h2
  have lt2 : ∀ x ∈ p2, x.block < W.heap.size := by obtain ⟨m, hm⟩ := k2; exact DataW.trod_lt m _ _ _ hm
  obtain ⟨A2, n2, c2, xs2, rfl, s2, c2c, _, w2, z2, u2⟩ := arg_ints (hval 2 22 v2 rfl rfl) h2
  clear hA0 hval0
  have hup : n0 + n2 ≤ 1048576 := by
    have hk1 := of_decide_eq_true hk
    simp only [List.append_nil, Rows.uptoBulkAll] at hk1
    omega
  refine (walk A0 n0 c0 xs0 a1 A2 n2 c2 xs2 W s0 c0c w0 w1 s2 c2c w2 hup).mono fun e W' ⟨he, bel⟩ => ?_
  subst he
  exact ⟨_, rfl, _, _, _, [], _, [], hW', trodAll_mk1 (shut_bool Try.underlying4 _), (trodAll_cons_mk (Below.trod laidOut (by kernel_rfl) (of_decide_eq_true (by kernel_rfl)) k0 bel lt0) (trodAll_cons_mk (shut_int Try.underlying3 w1) (trodAll_cons_mk (Below.trod laidOut (by kernel_rfl) (of_decide_eq_true (by kernel_rfl)) k2 bel lt2) trodAll_mk0))), rfl, bel.frame _, fun h => by cases h⟩

theorem over : Rows.fnInsertPlacesUptoRow.holds Try.pinned (Rows.OpenSpec.upto Rows.fnInsertPlacesSpec) :=
  OpenClaim.holds_of_cond 5 Try.f5 rfl rfl rfl rfl rfl rfl rfl ⟨rfl, rfl, rfl, rfl, rfl⟩ rfl rfl rfl rfl rfl (by kernel_rfl) Try.func5 (by kernel_rfl)
    (of_decide_eq_true (by kernel_rfl)) (by unfold Func.isWrapper; first | (rw [if_pos (by decide +kernel)]; kernel_rfl) | (rw [if_neg (by decide +kernel)]; exact ⟨rfl, rfl⟩))
    (fun os started H enc _ F => lifted os started H enc F)

theorem proved : Rows.FnInsertPlacesUptoSaid := over
end Go.Proofs.Ytbcjcceejddocaa.fnInsertPlaces
