/-
  What slices.Replace has put in is replaced by what was there, and by itself; for arguments of bulk at most 1048576.
-/
import Derived.Test.YtbcjcceejddocaaLift
import Derived.Test.YtbcjcceejddocaaRepW
namespace Go.Proofs.Ytbcjcceejddocaa.fnReplaceBack
open Go.ChangeShapes Go.WideShapes Go.ChangeAt Go.RowKit
set_option linter.unusedVariables false

theorem back1 (xs vs : List Int) (i j n m : Nat) (hn : xs.length = n) (hm : vs.length = m) (hi : i ≤ j) (hj : j ≤ n) : ins (ins xs i vs j) i ((xs.drop i).take (j - i)) (i + m) = xs := by
  have hl : (xs.take i).length = i := by rw [List.length_take]; omega
  have hl2 : (xs.take i ++ vs).length = i + m := by rw [List.length_append, hl, hm]
  rw [ins, ins, List.drop_left' hl2, List.append_assoc (xs.take i) vs, List.take_left' hl, List.append_assoc, show xs.drop j = (xs.drop i).drop (j - i) by rw [List.drop_drop, show i + (j - i) = j by omega], List.take_append_drop, List.take_append_drop]
theorem back2 (xs : List Int) (i j n : Nat) (hn : xs.length = n) (hi : i ≤ j) (hj : j ≤ n) : ins xs i ((xs.drop i).take (j - i)) j = xs := by
  rw [ins, List.append_assoc, show xs.drop j = (xs.drop i).drop (j - i) by rw [List.drop_drop, show i + (j - i) = j by omega], List.take_append_drop, List.take_append_drop]

set_option maxHeartbeats 2000000 in
set_option maxRecDepth 100000 in
theorem walk (A0 : Option Addr) (n0 c0 : Nat) (xs0 : List Int) (a1 : Int) (a2 : Int) (A3 : Option Addr) (n3 c3 : Nat) (xs3 : List Int) (w : World) (h0 : Sees w A0 n0 1 (iv xs0)) (hc0 : n0 ≤ c0) (hw0 : ∀ x ∈ xs0, (Lit.int .i64 x).wf = true) (hw1 : (Lit.int .i64 a1).wf = true) (hw2 : (Lit.int .i64 a2).wf = true) (h3 : Sees w A3 n3 1 (iv xs3)) (hc3 : n3 ≤ c3) (hw3 : ∀ x ∈ xs3, (Lit.int .i64 x).wf = true) (hup : n0 + n3 ≤ 1048576) :
    Calls Try.prog 10 #[.slice A0 n0 c0, .int .i64 a1, .int .i64 a2, .slice A3 n3 c3] w fun e w' => e = .returned (.bool true) ∧ Below w.heap.size w w' := by
  by_cases g1 : a1 < 0
  · go_enter Try.func10, Try.ntmps10
    go_wp2_with fail
    go_ret
    exact ⟨rfl, Below.refl _ _⟩
  by_cases g2 : a2 < a1
  · go_enter Try.func10, Try.ntmps10
    go_wp2_with fail
    go_ret
    exact ⟨rfl, Below.refl _ _⟩
  by_cases g3 : (n0 : Int) < a2
  · go_enter Try.func10, Try.ntmps10
    go_wp2_with fail
    go_ret
    exact ⟨rfl, Below.refl _ _⟩
  obtain ⟨i, rfl⟩ : ∃ i : Nat, a1 = (i : Int) := ⟨a1.toNat, by omega⟩
  obtain ⟨j, rfl⟩ : ∃ j : Nat, a2 = (j : Int) := ⟨a2.toNat, by omega⟩
  have hij : i ≤ j := by omega
  have hj : j ≤ n0 := by omega
  clear g1 g2 g3
  obtain ⟨i0, hi0, hz0, hz1, hz2⟩ := info_parts intInfo
  have HX := hide h0.ilen
  have HV := hide h3.ilen
  have q1 := fun W => run_slice_mid (P := Try.prog) W 22 3 i0 1 Try.underlying22 hi0 hz1 A0 n0 c0 .i64 .i64 i j hij (by omega)
  go_enter Try.func10, Try.ntmps10
  go_wp2_with (at_builtin; refine halt_here ?_)
  have t1 : Sees w (cutA A0 c0 i 1) (j - i) 1 (iv ((xs0.drop i).take (j - i))) := by
    have t1 := h0.cutA (k := i) (m := j - i) (c := c0) (by omega) hc0
    rw [Nat.mul_one, Nat.mul_one, ← iv_drop, ← iv_take] at t1
    exact t1
  refine ⟨wpList_append_sees w rfl _ _ _ rfl w.heap.size w.heap.size 3 i0 _ 1 8 Try.underlying22 hi0 hz0 hz1 hz2 rfl (by omega) none 0 0 [] rfl (Row.none_ w _ _ _ _ (Nat.le_refl _)) _ (j - i) (c0 - i) (iv ((xs0.drop i).take (j - i))) rfl t1 (iv_one _) (by unfold maxLen; omega) (by omega) (Nat.le_refl _) ?_⟩
  intro Ap cp w1 p o1 _
  rw [Nat.zero_add, List.nil_append] at p
  rw [Nat.zero_add]
  have d1 := o1.below (Nat.le_refl _) (Nat.le_refl _)
  have b1 : Below w.heap.size w w1 := (Below.refl w.heap.size w).trans (d1.mono (Below.refl w.heap.size w).size)
  have s1 : w.heap.size ≤ w1.heap.size := d1.size
  clear o1 d1 t1
  go_wp2_with fail
  refine (ReplaceInts_at A0 n0 c0 i j xs0 A3 n3 c3 xs3 _ (h0.below b1) (h3.below b1) (by omega) (by omega) (by omega) (by omega) _ _ rfl rfl).mono ?_
  rintro e w2 ⟨Ay, cy, rfl, y, d2⟩
  have b2 : Below w.heap.size w w2 := b1.trans (d2.mono b1.size)
  have s2 : w1.heap.size ≤ w2.heap.size := d2.size
  replace p := p.next d2
  clear d2
  go_wp2_with fail
  refine (ReplaceInts_at Ay (i + n3 + (n0 - j)) cy i (i + n3) _ Ap (j - i) cp _ _ y.sees p.sees (by omega) (by omega) (by omega) (by omega) _ _ rfl (by omega)).mono ?_
  rintro e w3 ⟨Az, cz, rfl, z, d3⟩
  have b3 : Below w.heap.size w w3 := b2.trans (d3.mono b2.size)
  have s3 : w2.heap.size ≤ w3.heap.size := d3.size
  replace p := p.next d3
  replace y := y.next d3
  clear d3
  rw [back1 xs0 xs3 i j n0 n3 HX.out HV.out hij hj] at z
  rw [show i + (j - i) + (i + n3 + (n0 - j) - (i + n3)) = n0 by omega] at z ⊢
  go_wp2_with fail
  refine (ReplaceInts_at A0 n0 c0 i j xs0 Ap (j - i) cp _ _ (h0.below b3) p.sees (by omega) (by omega) (by omega) (by omega) _ _ rfl rfl).mono ?_
  rintro e w4 ⟨Av, cv, rfl, v, d4⟩
  have b4 : Below w.heap.size w w4 := b3.trans (d4.mono b3.size)
  have s4 : w3.heap.size ≤ w4.heap.size := d4.size
  replace p := p.next d4
  replace y := y.next d4
  replace z := z.next d4
  clear d4
  rw [back2 xs0 i j n0 HX.out hij hj] at v
  rw [show i + (j - i) + (n0 - j) = n0 by omega] at v ⊢
  go_wp2_with fail
  refine (sameInts_b Az A0 n0 n0 cz c0 xs0 xs0 _ z.sees (h0.below b4) (by omega) (by omega)).mono ?_
  rintro e w5 ⟨rfl, d5⟩
  have b5 : Below w.heap.size w w5 := b4.trans (d5.mono b4.size)
  have s5 : w4.heap.size ≤ w5.heap.size := d5.size
  replace p := p.next d5
  replace y := y.next d5
  replace z := z.next d5
  replace v := v.next d5
  clear d5
  rw [decide_eq_true rfl]
  go_wp2_with fail
  refine (sameInts_b Av A0 n0 n0 cv c0 xs0 xs0 _ v.sees (h0.below b5) (by omega) (by omega)).mono ?_
  rintro e w6 ⟨rfl, d6⟩
  have b6 : Below w.heap.size w w6 := b5.trans (d6.mono b5.size)
  have s6 : w5.heap.size ≤ w6.heap.size := d6.size
  replace p := p.next d6
  replace y := y.next d6
  replace z := z.next d6
  replace v := v.next d6
  clear d6
  rw [decide_eq_true rfl]
  go_wp2_with fail
  go_ret
  exact ⟨rfl, b6⟩

set_option maxRecDepth 100000 in
theorem lifted (os : Os) (started : os.Started) (H : Type) (enc : TypeId × Value → H) (F : Stop.Interp) :
    ReturnsInHanded {} Try.checked os 10 .any ((Rows.OpenSpec.upto Rows.fnReplaceBackSpec).pre6 enc Try.prog Try.f10 Rows.fnReplaceBackUptoRow.domain false) (((Rows.OpenSpec.upto Rows.fnReplaceBackSpec).at F).post enc Try.prog Try.f10 false true false false) := by
  refine returnsInHanded_of_cond (C := Try.checked) (s := Rows.OpenSpec.upto Rows.fnReplaceBackSpec) (k := Rows.uptoSmall) rfl ownKnob_none started (by kernel_rfl) Try.func10
    (OpenSpec.witness (enc := enc) (C := Try.checked) (s := Rows.OpenSpec.upto Rows.fnReplaceBackSpec) (k := Rows.uptoSmall) rfl false ⟨#[], #[.slice none 0 0, .int .i64 0, .int .i64 0, .slice none 0 0], []⟩ 8 (by kernel_rfl) (by kernel_rfl) (by kernel_rfl)
      (x := ([.nil, .lit (.int .i64 0), .lit (.int .i64 0), .nil], [], [])) (by kernel_rfl) rfl (by kernel_rfl)) ?_
  intro W base args ds gs before hval0 hW hcnd hk _
  have hval : ∀ (j : Nat) t v, Try.f10.params[j]? = some t → args[j]? = some v → Value.okWide Try.prog W .any base t v := hval0
  have hW' := hW
  obtain ⟨p, q, hA0, hV, rfl, hfz, hnd⟩ := hW
  have hA : DataW.TrodAll enc Try.prog W 0 (fun _ => true) true Try.f10.params.toList args.toList ds p := hA0
  rw [Try.params10] at hA hval
  obtain ⟨v0, vs0, d0, ds0, p0, q0, hargs, rfl, rfl, h0, r0⟩ := trodAll_cons hA
  obtain ⟨v1, vs1, d1, ds1, p1, q1, rfl, rfl, rfl, h1, r1⟩ := trodAll_cons r0
  obtain ⟨v2, vs2, d2, ds2, p2, q2, rfl, rfl, rfl, h2, r2⟩ := trodAll_cons r1
  obtain ⟨v3, vs3, d3, ds3, p3, q3, rfl, rfl, rfl, h3, r3⟩ := trodAll_cons r2
  obtain ⟨rfl, rfl, rfl⟩ := trodAll_nil r3
  obtain rfl : args = #[v0, v1, v2, v3] := by cases args; simp_all
  obtain ⟨rfl, rfl⟩ := trodVars_none hV
  have k0 := h0
  have lt0 : ∀ x ∈ p0, x.block < W.heap.size := by obtain ⟨m, hm⟩ := k0; exact DataW.trod_lt m _ _ _ hm
  obtain ⟨A0, n0, c0, xs0, rfl, s0, c0c, _, w0, z0, u0⟩ := arg_ints (hval 0 22 v0 rfl rfl) h0
  obtain ⟨a1, rfl, rfl, rfl, w1⟩ := open_int Try.underlying3 (hval 1 3 v1 rfl rfl) h1
  obtain ⟨a2, rfl, rfl, rfl, w2⟩ := open_int Try.underlying3 (hval 2 3 v2 rfl rfl) h2
  have k3 := h3
  have lt3 : ∀ x ∈ p3, x.block < W.heap.size := by obtain ⟨m, hm⟩ := k3; exact DataW.trod_lt m _ _ _ hm
  obtain ⟨A3, n3, c3, xs3, rfl, s3, c3c, _, w3, z3, u3⟩ := arg_ints (hval 3 22 v3 rfl rfl) h3
  clear hA0 hval0
  have hup : n0 + n3 ≤ 1048576 := by
    have hk1 := of_decide_eq_true hk
    simp only [List.append_nil, Rows.uptoBulkAll] at hk1
    omega
  refine (walk A0 n0 c0 xs0 a1 a2 A3 n3 c3 xs3 W s0 c0c w0 w1 w2 s3 c3c w3 hup).mono fun e W' ⟨he, bel⟩ => ?_
  subst he
  exact ⟨_, rfl, _, _, _, [], _, [], hW', trodAll_mk1 (shut_bool Try.underlying4 _), (trodAll_cons_mk (Below.trod laidOut (by kernel_rfl) (of_decide_eq_true (by kernel_rfl)) k0 bel lt0) (trodAll_cons_mk (shut_int Try.underlying3 w1) (trodAll_cons_mk (shut_int Try.underlying3 w2) (trodAll_cons_mk (Below.trod laidOut (by kernel_rfl) (of_decide_eq_true (by kernel_rfl)) k3 bel lt3) trodAll_mk0)))), rfl, bel.frame _, fun h => by cases h⟩

theorem over : Rows.fnReplaceBackUptoRow.holds Try.pinned (Rows.OpenSpec.upto Rows.fnReplaceBackSpec) :=
  OpenClaim.holds_of_cond 10 Try.f10 rfl rfl rfl rfl rfl rfl rfl ⟨rfl, rfl, rfl, rfl, rfl⟩ rfl rfl rfl rfl rfl (by kernel_rfl) Try.func10 (by kernel_rfl)
    (of_decide_eq_true (by kernel_rfl)) (by unfold Func.isWrapper; first | (rw [if_pos (by decide +kernel)]; kernel_rfl) | (rw [if_neg (by decide +kernel)]; exact ⟨rfl, rfl⟩))
    (fun os started H enc _ F => lifted os started H enc F)

theorem proved : Rows.FnReplaceBackUptoSaid := over
end Go.Proofs.Ytbcjcceejddocaa.fnReplaceBack
