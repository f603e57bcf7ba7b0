/-
  slices.Concat of two lists of at most a million numbers is slices.Insert at the end of the first one, and at the beginning of the second one; no condition.
-/
import Derived.Test.YtbcjcceejddocaaLift
import Derived.Test.YtbcjcceejddocaaInsW
import Derived.Test.YtbcjcceejddocaaConcat
namespace Go.Proofs.Ytbcjcceejddocaa.fnConcatIsInsert
open Go.ChangeShapes Go.WideShapes Go.ChangeAt Go.RowKit
set_option linter.unusedVariables false

set_option maxHeartbeats 2000000 in
set_option maxRecDepth 100000 in
theorem walk (A0 : Option Addr) (n0 c0 : Nat) (xs0 : List Int) (A1 : Option Addr) (n1 c1 : Nat) (xs1 : List Int) (w : World) (h0 : Sees w A0 n0 1 (iv xs0)) (hc0 : n0 ≤ c0) (hw0 : ∀ x ∈ xs0, (Lit.int .i64 x).wf = true) (hn0 : n0 ≤ 17592186043904) (h1 : Sees w A1 n1 1 (iv xs1)) (hc1 : n1 ≤ c1) (hw1 : ∀ x ∈ xs1, (Lit.int .i64 x).wf = true) (hn1 : n1 ≤ 17592186043904) :
    Calls Try.prog 14 #[.slice A0 n0 c0, .slice A1 n1 c1] w fun e w' => e = .returned (.bool true) ∧ Below w.heap.size w w' := by
  by_cases g1 : 1000000 < n0
  · go_enter Try.func14, Try.ntmps14
    go_wp2_with fail
    go_ret
    exact ⟨rfl, Below.refl _ _⟩
  by_cases g2 : 1000000 < n1
  · go_enter Try.func14, Try.ntmps14
    go_wp2_with fail
    go_ret
    exact ⟨rfl, Below.refl _ _⟩
  have HX := hide h0.ilen
  have HY := hide h1.ilen
  have e1 : (((n0 + n1 : Nat) : Int) == (n0 : Int) + (n1 : Int)) = true := by simp
  have E1 : Hid (tot [⟨A0, n0, c0, xs0⟩, ⟨A1, n1, c1, xs1⟩] = n0 + n1) := by show _ = _; simp [tot]
  have E2 : Hid (cat [⟨A0, n0, c0, xs0⟩, ⟨A1, n1, c1, xs1⟩] = xs0 ++ xs1) := by show _ = _; simp [cat]
  have E3 : Hid (ins xs0 n0 xs1 n0 = xs0 ++ xs1) := by show _ = _; rw [ins, List.take_of_length_le (by rw [HX.out]; exact Nat.le_refl _), List.drop_of_length_le (by rw [HX.out]; exact Nat.le_refl _), List.append_nil]
  have E4 : Hid (ins xs1 0 xs0 0 = xs0 ++ xs1) := by show _ = _; rw [ins, List.take_zero, List.drop_zero, List.nil_append]
  go_enter Try.func14, Try.ntmps14
  go_wp2_with fail
  have z1 : Sees (w.alloc (.cells #[.slice A0 n0 c0, .slice A1 n1 c1] 22)) (some ⟨w.heap.size, 0, none⟩) 2 1 (qv [⟨A0, n0, c0, xs0⟩, ⟨A1, n1, c1, xs1⟩]) := (Blk.new w 22 #[.slice A0 n0 c0, .slice A1 n1 c1]).sees (off := 0) (n := 2) (sz := 1) (pre := []) (xs := qv [⟨A0, n0, c0, xs0⟩, ⟨A1, n1, c1, xs1⟩]) (post := []) rfl rfl
  have z0 : Below w.heap.size w (w.alloc (.cells #[.slice A0 n0 c0, .slice A1 n1 c1] 22)) := (Below.refl _ _).alloc (Nat.le_refl _) _
  have z2 : All (w.alloc (.cells #[.slice A0 n0 c0, .slice A1 n1 c1] 22)) [⟨A0, n0, c0, xs0⟩, ⟨A1, n1, c1, xs1⟩] := by
    intro p hp
    simp only [List.mem_cons, List.not_mem_nil, or_false] at hp
    rcases hp with rfl | rfl
    · exact ⟨h0.below z0, hc0⟩
    · exact ⟨h1.below z0, hc1⟩
  refine (ConcatInts_any _ 2 2 _ _ z1 z2 (by rw [E1.out]; omega) (by omega)).mono ?_
  rintro e w1 ⟨Ay, cy, rfl, y, d1⟩
  have b1 : Below w.heap.size w w1 := z0.trans (d1.mono z0.size)
  have s1 : w.heap.size ≤ w1.heap.size := b1.size
  rw [E1.out, E2.out] at y
  rw [E1.out]
  clear d1 z0 z1 z2
  go_wp2_with fail
  refine (InsertInts_at A0 n0 c0 n0 xs0 A1 n1 c1 xs1 _ (h0.below b1) (h1.below b1) (Nat.le_refl _) (by omega) _ rfl).mono ?_
  rintro e w2 ⟨Ap, cp, rfl, p, d2⟩
  have b2 : Below w.heap.size w w2 := b1.trans (d2.mono b1.size)
  have s2 : w1.heap.size ≤ w2.heap.size := d2.size
  replace y := y.next d2
  clear d2
  rw [E3.out] at p
  go_wp2_with fail
  refine (InsertInts_at A1 n1 c1 0 xs1 A0 n0 c0 xs0 _ (h1.below b2) (h0.below b2) (Nat.zero_le _) (by omega) _ rfl).mono ?_
  rintro e w3 ⟨Aq, cq, rfl, q, d3⟩
  have b3 : Below w.heap.size w w3 := b2.trans (d3.mono b2.size)
  have s3 : w2.heap.size ≤ w3.heap.size := d3.size
  replace y := y.next d3
  replace p := p.next d3
  clear d3
  rw [E4.out] at q
  rw [Nat.add_comm n1 n0] at q ⊢
  go_wp2_with fail
  refine (sameInts_b Ap Ay (n0 + n1) (n0 + n1) cp cy (xs0 ++ xs1) (xs0 ++ xs1) _ p.sees y.sees (by omega) (by omega)).mono ?_
  rintro e w4 ⟨rfl, d4⟩
  have b4 : Below w.heap.size w w4 := b3.trans (d4.mono b3.size)
  have s4 : w3.heap.size ≤ w4.heap.size := d4.size
  replace y := y.next d4
  replace p := p.next d4
  replace q := q.next d4
  clear d4
  rw [decide_eq_true rfl]
  go_wp2_with fail
  refine (sameInts_b Aq Ay (n0 + n1) (n0 + n1) cq cy (xs0 ++ xs1) (xs0 ++ xs1) _ q.sees y.sees (by omega) (by omega)).mono ?_
  rintro e w5 ⟨rfl, d5⟩
  have b5 : Below w.heap.size w w5 := b4.trans (d5.mono b4.size)
  have s5 : w4.heap.size ≤ w5.heap.size := d5.size
  replace y := y.next d5
  replace p := p.next d5
  replace q := q.next d5
  clear d5
  rw [decide_eq_true rfl]
  go_wp2_with fail
  go_ret
  exact ⟨rfl, b5⟩

set_option maxRecDepth 100000 in
theorem lifted (os : Os) (started : os.Started) (H : Type) (enc : TypeId × Value → H) :
    ReturnsInHanded {} Try.checked os 14 .any (Rows.fnConcatIsInsertSpec.pre6 enc Try.prog Try.f14 Rows.fnConcatIsInsertRow.domain false) (Rows.fnConcatIsInsertSpec.post enc Try.prog Try.f14 false true false false) := by
  refine returnsInHanded_of_change_sized (C := Try.checked) ownKnob_none started (by kernel_rfl) Try.func14
    (ChangeSpec.witness6 (enc := enc) (C := Try.checked) false ⟨#[], #[.slice none 0 0, .slice none 0 0], []⟩ 8 (by kernel_rfl) (by kernel_rfl) (by kernel_rfl) (by kernel_rfl)) ?_
  intro W base args ds gs before hval0 hW hcnd hsz0 _
  have hsz : (DataW.weightsEach Try.prog (Try.f14.params.toList ++ Rows.fnConcatIsInsertSpec.plain.varTypes Try.prog) (ds ++ gs)).all (· ≤ reachBytes) = true := hsz0
  have hval : ∀ (j : Nat) t v, Try.f14.params[j]? = some t → args[j]? = some v → Value.okWide Try.prog W .any base t v := hval0
  have hW' := hW
  obtain ⟨p, q, hA0, hV, rfl, hfz, hnd⟩ := hW
  have hA : DataW.TrodAll enc Try.prog W 0 (fun _ => true) true Try.f14.params.toList args.toList ds p := hA0
  rw [Try.params14] at hA hval hsz
  obtain ⟨v0, vs0, d0, ds0, p0, q0, hargs, rfl, rfl, h0, r0⟩ := trodAll_cons hA
  obtain ⟨v1, vs1, d1, ds1, p1, q1, rfl, rfl, rfl, h1, r1⟩ := trodAll_cons r0
  obtain ⟨rfl, rfl, rfl⟩ := trodAll_nil r1
  obtain rfl : args = #[v0, v1] := by cases args; simp_all
  obtain ⟨rfl, rfl⟩ := trodVars_none hV
  have k0 := h0
  have lt0 : ∀ x ∈ p0, x.block < W.heap.size := by obtain ⟨m, hm⟩ := k0; exact DataW.trod_lt m _ _ _ hm
  obtain ⟨A0, n0, c0, xs0, rfl, s0, c0c, _, w0, z0, u0⟩ := arg_ints (hval 0 22 v0 rfl rfl) h0
  have k1 := h1
  have lt1 : ∀ x ∈ p1, x.block < W.heap.size := by obtain ⟨m, hm⟩ := k1; exact DataW.trod_lt m _ _ _ hm
  obtain ⟨A1, n1, c1, xs1, rfl, s1, c1c, _, w1, z1, u1⟩ := arg_ints (hval 1 22 v1 rfl rfl) h1
  clear hA0 hval0 hsz0
  refine (walk A0 n0 c0 xs0 A1 n1 c1 xs1 W s0 c0c w0 (z0 (weights_arg hsz 0 rfl rfl)) s1 c1c w1 (z1 (weights_arg hsz 1 rfl rfl))).mono fun e W' ⟨he, bel⟩ => ?_
  subst he
  exact ⟨_, rfl, _, _, _, [], _, [], hW', trodAll_mk1 (shut_bool Try.underlying4 _), (trodAll_cons_mk (Below.trod laidOut (by kernel_rfl) (of_decide_eq_true (by kernel_rfl)) k0 bel lt0) (trodAll_cons_mk (Below.trod laidOut (by kernel_rfl) (of_decide_eq_true (by kernel_rfl)) k1 bel lt1) trodAll_mk0)), rfl, bel.frame _, fun h => by cases h⟩

theorem over : Rows.fnConcatIsInsertRow.holds Try.pinned (OpenSpec.ofChange Rows.fnConcatIsInsertSpec) :=
  OpenClaim.holds_of_wide 14 Try.f14 rfl rfl rfl rfl rfl rfl rfl ⟨rfl, rfl, rfl, rfl, rfl⟩ rfl rfl rfl rfl rfl (by kernel_rfl) Try.func14 (by kernel_rfl)
    (of_decide_eq_true (by kernel_rfl)) (by unfold Func.isWrapper; first | (rw [if_pos (by decide +kernel)]; kernel_rfl) | (rw [if_neg (by decide +kernel)]; exact ⟨rfl, rfl⟩))
    (fun os started H enc _ => lifted os started H enc)

theorem proved : Rows.FnConcatIsInsertSaid := over
end Go.Proofs.Ytbcjcceejddocaa.fnConcatIsInsert
