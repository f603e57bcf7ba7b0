/-
  slices.Insert puts back what slices.Delete has taken away; no condition.
-/
import Derived.Test.YtbcjcceejddocaaLift
import Derived.Test.YtbcjcceejddocaaInsW
namespace Go.Proofs.Ytbcjcceejddocaa.fnInsertDeleted
open Go.ChangeShapes Go.WideShapes Go.ChangeAt Go.RowKit
set_option linter.unusedVariables false

theorem del_back (xs : List Int) (i j n : Nat) (hn : xs.length = n) (hi : i ≤ j) (hj : j ≤ n) : ins (xs.take i ++ xs.drop j) i ((xs.drop i).take (j - i)) i = xs := by
  have hl : (xs.take i).length = i := by rw [List.length_take]; omega
  rw [ins, List.take_left' hl, List.drop_left' hl, List.append_assoc, show xs.drop j = (xs.drop i).drop (j - i) by rw [List.drop_drop, show i + (j - i) = j by omega], List.take_append_drop, List.take_append_drop]

set_option maxHeartbeats 1000000 in
theorem walk (A0 : Option Addr) (n0 c0 : Nat) (xs0 : List Int) (a1 : Int) (a2 : Int) (w : World) (h0 : Sees w A0 n0 1 (iv xs0)) (hc0 : n0 ≤ c0) (hw0 : ∀ x ∈ xs0, (Lit.int .i64 x).wf = true) (hn0 : n0 ≤ 17592186043904) (hw1 : (Lit.int .i64 a1).wf = true) (hw2 : (Lit.int .i64 a2).wf = true) :
    Calls Try.prog 7 #[.slice A0 n0 c0, .int .i64 a1, .int .i64 a2] w fun e w' => e = .returned (.bool true) ∧ Below w.heap.size w w' := by
  by_cases g1 : a1 < 0
  · go_enter Try.func7, Try.ntmps7
    go_wp2_with fail
    go_ret
    exact ⟨rfl, Below.refl _ _⟩
  by_cases g2 : a2 < a1
  · go_enter Try.func7, Try.ntmps7
    go_wp2_with fail
    go_ret
    exact ⟨rfl, Below.refl _ _⟩
  by_cases g3 : (n0 : Int) < a2
  · go_enter Try.func7, Try.ntmps7
    go_wp2_with fail
    go_ret
    exact ⟨rfl, Below.refl _ _⟩
  obtain ⟨i, rfl⟩ : ∃ i : Nat, a1 = (i : Int) := ⟨a1.toNat, by omega⟩
  obtain ⟨j, rfl⟩ : ∃ j : Nat, a2 = (j : Int) := ⟨a2.toNat, by omega⟩
  have hij : i ≤ j := by omega
  have hj : j ≤ n0 := by omega
  clear g1 g2 g3
  obtain ⟨i0, hi0, hz0, hz1, hz2⟩ := info_parts intInfo
  have HX := hide h0.ilen
  have e1 : (((i + (n0 - j) : Nat) : Int) == (n0 : Int) - ((j : Int) - (i : Int))) = true := by simp; omega
  have q1 := fun W => run_slice_mid (P := Try.prog) W 22 3 i0 1 Try.underlying22 hi0 hz1 A0 n0 c0 .i64 .i64 i j hij (by omega)
  go_enter Try.func7, Try.ntmps7
  go_wp2_with fail
  refine (DeleteInts_ok A0 n0 c0 i j xs0 _ h0 hij hj (by omega)).mono ?_
  rintro e w1 ⟨Ay, cy, rfl, y, d1⟩
  have b1 : Below w.heap.size w w1 := (Below.refl w.heap.size w).trans (d1.mono (Below.refl w.heap.size w).size)
  have s1 : w.heap.size ≤ w1.heap.size := d1.size
  clear d1
  go_wp2_with (at_builtin; refine halt_here ?_)
  have t2 : Sees w1 (cutA A0 c0 i 1) (j - i) 1 (iv ((xs0.drop i).take (j - i))) := by
    have t1 := (h0.below b1).cutA (k := i) (m := j - i) (c := c0) (by omega) hc0
    rw [Nat.mul_one, Nat.mul_one, ← iv_drop, ← iv_take] at t1
    exact t1
  refine ⟨wpList_append_sees w1 rfl _ _ _ rfl w1.heap.size w1.heap.size 3 i0 _ 1 8 Try.underlying22 hi0 hz0 hz1 hz2 rfl (by omega) none 0 0 [] rfl (Row.none_ w1 _ _ _ _ (Nat.le_refl _)) _ (j - i) (c0 - i) (iv ((xs0.drop i).take (j - i))) rfl t2 (iv_one _) (by unfold maxLen; omega) (by omega) (Nat.le_refl _) ?_⟩
  intro Ap cp w2 p o2 _
  rw [Nat.zero_add, List.nil_append] at p
  rw [Nat.zero_add]
  have d2 := o2.below (Nat.le_refl _) (Nat.le_refl _)
  have b2 : Below w.heap.size w w2 := b1.trans (d2.mono b1.size)
  have s2 : w1.heap.size ≤ w2.heap.size := d2.size
  replace y := y.next d2
  clear o2 d2 t2
  go_wp2_with fail
  refine (InsertInts_at Ay (i + (n0 - j)) cy i _ Ap (j - i) cp _ _ y.sees p.sees (by omega) (by omega) _ rfl).mono ?_
  rintro e w3 ⟨Az, cz, rfl, z, d3⟩
  have b3 : Below w.heap.size w w3 := b2.trans (d3.mono b2.size)
  have s3 : w2.heap.size ≤ w3.heap.size := d3.size
  replace y := y.next d3
  replace p := p.next d3
  clear d3
  rw [del_back xs0 i j n0 HX.out hij hj] at z
  rw [show i + (n0 - j) + (j - i) = n0 by omega] at z ⊢
  go_wp2_with fail
  refine (sameInts_b Az A0 n0 n0 cz c0 xs0 xs0 _ z.sees (h0.below b3) (by omega) (by omega)).mono ?_
  rintro e w4 ⟨rfl, d4⟩
  have b4 : Below w.heap.size w w4 := b3.trans (d4.mono b3.size)
  have s4 : w3.heap.size ≤ w4.heap.size := d4.size
  replace y := y.next d4
  replace p := p.next d4
  replace z := z.next d4
  clear d4
  rw [decide_eq_true rfl]
  go_wp2_with fail
  go_ret
  exact ⟨rfl, b4⟩

set_option maxRecDepth 100000 in
theorem lifted (os : Os) (started : os.Started) (H : Type) (enc : TypeId × Value → H) :
    ReturnsInHanded {} Try.checked os 7 .any (Rows.fnInsertDeletedSpec.pre6 enc Try.prog Try.f7 Rows.fnInsertDeletedRow.domain false) (Rows.fnInsertDeletedSpec.post enc Try.prog Try.f7 false true false false) := by
  refine returnsInHanded_of_change_sized (C := Try.checked) ownKnob_none started (by kernel_rfl) Try.func7
    (ChangeSpec.witness6 (enc := enc) (C := Try.checked) false ⟨#[], #[.slice none 0 0, .int .i64 0, .int .i64 0], []⟩ 8 (by kernel_rfl) (by kernel_rfl) (by kernel_rfl) (by kernel_rfl)) ?_
  intro W base args ds gs before hval0 hW hcnd hsz0 _
  have hsz : (DataW.weightsEach Try.prog (Try.f7.params.toList ++ Rows.fnInsertDeletedSpec.plain.varTypes Try.prog) (ds ++ gs)).all (· ≤ reachBytes) = true := hsz0
  have hval : ∀ (j : Nat) t v, Try.f7.params[j]? = some t → args[j]? = some v → Value.okWide Try.prog W .any base t v := hval0
  have hW' := hW
  obtain ⟨p, q, hA0, hV, rfl, hfz, hnd⟩ := hW
  have hA : DataW.TrodAll enc Try.prog W 0 (fun _ => true) true Try.f7.params.toList args.toList ds p := hA0
  rw [Try.params7] at hA hval hsz
  obtain ⟨v0, vs0, d0, ds0, p0, q0, hargs, rfl, rfl, h0, r0⟩ := trodAll_cons hA
  obtain ⟨v1, vs1, d1, ds1, p1, q1, rfl, rfl, rfl, h1, r1⟩ := trodAll_cons r0
  obtain ⟨v2, vs2, d2, ds2, p2, q2, rfl, rfl, rfl, h2, r2⟩ := trodAll_cons r1
  obtain ⟨rfl, rfl, rfl⟩ := trodAll_nil r2
  obtain rfl : args = #[v0, v1, v2] := by cases args; simp_all
  obtain ⟨rfl, rfl⟩ := trodVars_none hV
  have k0 := h0
  have lt0 : ∀ x ∈ p0, x.block < W.heap.size := by obtain ⟨m, hm⟩ := k0; exact DataW.trod_lt m _ _ _ hm
  obtain ⟨A0, n0, c0, xs0, rfl, s0, c0c, _, w0, z0, u0⟩ := arg_ints (hval 0 22 v0 rfl rfl) h0
  obtain ⟨a1, rfl, rfl, rfl, w1⟩ := open_int Try.underlying3 (hval 1 3 v1 rfl rfl) h1
  obtain ⟨a2, rfl, rfl, rfl, w2⟩ := open_int Try.underlying3 (hval 2 3 v2 rfl rfl) h2
  clear hA0 hval0 hsz0
  refine (walk A0 n0 c0 xs0 a1 a2 W s0 c0c w0 (z0 (weights_arg hsz 0 rfl rfl)) w1 w2).mono fun e W' ⟨he, bel⟩ => ?_
  subst he
  exact ⟨_, rfl, _, _, _, [], _, [], hW', trodAll_mk1 (shut_bool Try.underlying4 _), (trodAll_cons_mk (Below.trod laidOut (by kernel_rfl) (of_decide_eq_true (by kernel_rfl)) k0 bel lt0) (trodAll_cons_mk (shut_int Try.underlying3 w1) (trodAll_cons_mk (shut_int Try.underlying3 w2) trodAll_mk0))), rfl, bel.frame _, fun h => by cases h⟩

theorem over : Rows.fnInsertDeletedRow.holds Try.pinned (OpenSpec.ofChange Rows.fnInsertDeletedSpec) :=
  OpenClaim.holds_of_wide 7 Try.f7 rfl rfl rfl rfl rfl rfl rfl ⟨rfl, rfl, rfl, rfl, rfl⟩ rfl rfl rfl rfl rfl (by kernel_rfl) Try.func7 (by kernel_rfl)
    (of_decide_eq_true (by kernel_rfl)) (by unfold Func.isWrapper; first | (rw [if_pos (by decide +kernel)]; kernel_rfl) | (rw [if_neg (by decide +kernel)]; exact ⟨rfl, rfl⟩))
    (fun os started H enc _ => lifted os started H enc)

theorem proved : Rows.FnInsertDeletedSaid := over
end Go.Proofs.Ytbcjcceejddocaa.fnInsertDeleted
