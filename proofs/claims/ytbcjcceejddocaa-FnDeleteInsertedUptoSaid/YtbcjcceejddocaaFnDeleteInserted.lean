/-
  slices.Delete takes away what slices.Insert has put in; for arguments of bulk at most 1048576.
-/
import Derived.Test.YtbcjcceejddocaaLift
import Derived.Test.YtbcjcceejddocaaInsW
namespace Go.Proofs.Ytbcjcceejddocaa.fnDeleteInserted
open Go.ChangeShapes Go.WideShapes Go.ChangeAt Go.RowKit
set_option linter.unusedVariables false

theorem ins_back (xs vs : List Int) (i n m : Nat) (hn : xs.length = n) (hm : vs.length = m) (hi : i ≤ n) : (ins xs i vs i).take i ++ (ins xs i vs i).drop (i + m) = xs := by
  have hl : (xs.take i).length = i := by rw [List.length_take]; omega
  have hl2 : (xs.take i ++ vs).length = i + m := by rw [List.length_append, hl, hm]
  rw [ins, List.drop_left' hl2, List.append_assoc, List.take_left' hl, List.take_append_drop]

set_option maxHeartbeats 1000000 in
theorem walk (A0 : Option Addr) (n0 c0 : Nat) (xs0 : List Int) (a1 : Int) (A2 : Option Addr) (n2 c2 : Nat) (xs2 : List Int) (w : World) (h0 : Sees w A0 n0 1 (iv xs0)) (hc0 : n0 ≤ c0) (hw0 : ∀ x ∈ xs0, (Lit.int .i64 x).wf = true) (hw1 : (Lit.int .i64 a1).wf = true) (h2 : Sees w A2 n2 1 (iv xs2)) (hc2 : n2 ≤ c2) (hw2 : ∀ x ∈ xs2, (Lit.int .i64 x).wf = true) (hup : n0 + n2 ≤ 1048576) :
    Calls Try.prog 6 #[.slice A0 n0 c0, .int .i64 a1, .slice A2 n2 c2] w fun e w' => e = .returned (.bool true) ∧ Below w.heap.size w w' := by
  by_cases g1 : a1 < 0
  · go_enter Try.func6, Try.ntmps6
    go_wp2_with fail
    go_ret
    exact ⟨rfl, Below.refl _ _⟩
  by_cases g2 : (n0 : Int) < a1
  · go_enter Try.func6, Try.ntmps6
    go_wp2_with fail
    go_ret
    exact ⟨rfl, Below.refl _ _⟩
  obtain ⟨i, rfl⟩ : ∃ i : Nat, a1 = (i : Int) := ⟨a1.toNat, by omega⟩
  have hi : i ≤ n0 := by omega
  clear g1 g2
  have HX := hide h0.ilen
  have HV := hide h2.ilen
  go_enter Try.func6, Try.ntmps6
  go_wp2_with fail
  refine (InsertInts_at A0 n0 c0 i xs0 A2 n2 c2 xs2 _ h0 h2 (by omega) (by omega) _ rfl).mono ?_
  rintro e w1 ⟨Ay, cy, rfl, y, d1⟩
  have b1 : Below w.heap.size w w1 := (Below.refl w.heap.size w).trans (d1.mono (Below.refl w.heap.size w).size)
  have s1 : w.heap.size ≤ w1.heap.size := d1.size
  clear d1
  go_wp2_with fail
  refine (DeleteInts_at Ay (n0 + n2) cy i (i + n2) (ins xs0 i xs2 i) _ y.sees (by omega) (by omega) (by omega) _ _ rfl (by omega)).mono ?_
  rintro e w2 ⟨Az, cz, rfl, z, d2⟩
  have b2 : Below w.heap.size w w2 := b1.trans (d2.mono b1.size)
  have s2 : w1.heap.size ≤ w2.heap.size := d2.size
  replace y := y.next d2
  clear d2
  rw [ins_back xs0 xs2 i n0 n2 HX.out HV.out hi] at z
  rw [show i + (n0 + n2 - (i + n2)) = n0 by omega] at z ⊢
  go_wp2_with fail
  refine (sameInts_b Az A0 n0 n0 cz c0 xs0 xs0 _ z.sees (h0.below b2) (by omega) (by omega)).mono ?_
  rintro e w3 ⟨rfl, d3⟩
  have b3 : Below w.heap.size w w3 := b2.trans (d3.mono b2.size)
  have s3 : w2.heap.size ≤ w3.heap.size := d3.size
  replace y := y.next d3
  replace z := z.next d3
  clear d3
  rw [decide_eq_true rfl]
  go_wp2_with fail
  go_ret
  exact ⟨rfl, b3⟩

set_option maxRecDepth 100000 in
theorem lifted (os : Os) (started : os.Started) (H : Type) (enc : TypeId × Value → H) (F : Stop.Interp) :
    ReturnsInHanded {} Try.checked os 6 .any ((Rows.OpenSpec.upto Rows.fnDeleteInsertedSpec).pre6 enc Try.prog Try.f6 Rows.fnDeleteInsertedUptoRow.domain false) (((Rows.OpenSpec.upto Rows.fnDeleteInsertedSpec).at F).post enc Try.prog Try.f6 false true false false) := by
  refine returnsInHanded_of_cond (C := Try.checked) (s := Rows.OpenSpec.upto Rows.fnDeleteInsertedSpec) (k := Rows.uptoSmall) rfl ownKnob_none started (by kernel_rfl) Try.func6
    (OpenSpec.witness (enc := enc) (C := Try.checked) (s := Rows.OpenSpec.upto Rows.fnDeleteInsertedSpec) (k := Rows.uptoSmall) rfl false ⟨#[], #[.slice none 0 0, .int .i64 0, .slice none 0 0], []⟩ 8 (by kernel_rfl) (by kernel_rfl) (by kernel_rfl)
      (x := ([.nil, .lit (.int .i64 0), .nil], [], [])) (by kernel_rfl) rfl (by kernel_rfl)) ?_
  intro W base args ds gs before hval0 hW hcnd hk _
  have hval : ∀ (j : Nat) t v, Try.f6.params[j]? = some t → args[j]? = some v → Value.okWide Try.prog W .any base t v := hval0
  have hW' := hW
  obtain ⟨p, q, hA0, hV, rfl, hfz, hnd⟩ := hW
  have hA : DataW.TrodAll enc Try.prog W 0 (fun _ => true) true Try.f6.params.toList args.toList ds p := hA0
  rw [Try.params6] at hA hval
  obtain ⟨v0, vs0, d0, ds0, p0, q0, hargs, rfl, rfl, h0, r0⟩ := trodAll_cons hA
  obtain ⟨v1, vs1, d1, ds1, p1, q1, rfl, rfl, rfl, h1, r1⟩ := trodAll_cons r0
  obtain ⟨v2, vs2, d2, ds2, p2, q2, rfl, rfl, rfl, h2, r2⟩ := trodAll_cons r1
  obtain ⟨rfl, rfl, rfl⟩ := trodAll_nil r2
  obtain rfl : args = #[v0, v1, v2] := by cases args; simp_all
  obtain ⟨rfl, rfl⟩ := trodVars_none hV
  have k0 := h0
  have lt0 : ∀ x ∈ p0, x.block < W.heap.size := by obtain ⟨m, hm⟩ := k0; exact DataW.trod_lt m _ _ _ hm
  obtain ⟨A0, n0, c0, xs0, rfl, s0, c0c, _, w0, z0, u0⟩ := arg_ints (hval 0 22 v0 rfl rfl) h0
  obtain ⟨a1, rfl, rfl, rfl, w1⟩ := open_int Try.underlying3 (hval 1 3 v1 rfl rfl) h1
  have k2 := h2
  have lt2 : ∀ x ∈ p2, x.block < W.heap.size := by obtain ⟨m, hm⟩ := k2; exact DataW.trod_lt m _ _ _ hm
  obtain ⟨A2, n2, c2, xs2, rfl, s2, c2c, _, w2, z2, u2⟩ := arg_ints (hval 2 22 v2 rfl rfl) h2
  clear hA0 hval0
  have hup : n0 + n2 ≤ 1048576 := by
    have hk1 := of_decide_eq_true hk
    simp only [List.append_nil, Rows.uptoBulkAll] at hk1
    omega
  refine (walk A0 n0 c0 xs0 a1 A2 n2 c2 xs2 W s0 c0c w0 w1 s2 c2c w2 hup).mono fun e W' ⟨he, bel⟩ => ?_
  subst he
  exact ⟨_, rfl, _, _, _, [], _, [], hW', trodAll_mk1 (shut_bool Try.underlying4 _), (trodAll_cons_mk (Below.trod laidOut (by kernel_rfl) (of_decide_eq_true (by kernel_rfl)) k0 bel lt0) (trodAll_cons_mk (shut_int Try.underlying3 w1) (trodAll_cons_mk (Below.trod laidOut (by kernel_rfl) (of_decide_eq_true (by kernel_rfl)) k2 bel lt2) trodAll_mk0))), rfl, bel.frame _, fun h => by cases h⟩

theorem over : Rows.fnDeleteInsertedUptoRow.holds Try.pinned (Rows.OpenSpec.upto Rows.fnDeleteInsertedSpec) :=
  OpenClaim.holds_of_cond 6 Try.f6 rfl rfl rfl rfl rfl rfl rfl ⟨rfl, rfl, rfl, rfl, rfl⟩ rfl rfl rfl rfl rfl (by kernel_rfl) Try.func6 (by kernel_rfl)
    (of_decide_eq_true (by kernel_rfl)) (by unfold Func.isWrapper; first | (rw [if_pos (by decide +kernel)]; kernel_rfl) | (rw [if_neg (by decide +kernel)]; exact ⟨rfl, rfl⟩))
    (fun os started H enc _ F => lifted os started H enc F)

theorem proved : Rows.FnDeleteInsertedUptoSaid := over
end Go.Proofs.Ytbcjcceejddocaa.fnDeleteInserted
