/-
  Reversing a part is replacing it by its reversal; no condition.
-/
import Derived.Test.YtbcjcceejddocaaLift
import Derived.Test.YtbcjcceejddocaaRepW
import Derived.Test.YtbcjcceejddocaaReverse
import Derived.Test.YtbcjcceejddocaaPart1
import Derived.Lib.SmallJoins
namespace Go.Proofs.Ytbcjcceejddocaa.fnReversePartIsReplace
open Go.ChangeShapes Go.WideShapes Go.ChangeAt Go.RowKit
set_option linter.unusedVariables false

theorem revOne_all (p : Int × Int) (xs : List Int) : revAll [p] xs = revOne xs p := rfl

set_option maxHeartbeats 2000000 in
set_option maxRecDepth 100000 in
theorem walk (A0 : Option Addr) (n0 c0 : Nat) (xs0 : List Int) (f1 t1 : Int) (w : World) (h0 : Sees w A0 n0 1 (iv xs0)) (hc0 : n0 ≤ c0) (hw0 : ∀ x ∈ xs0, (Lit.int .i64 x).wf = true) (hn0 : n0 ≤ 17592186043904) :
    Calls Try.prog 13 #[.slice A0 n0 c0, .agg #[.int .i64 f1, .int .i64 t1]] w fun e w' => e = .returned (.bool true) ∧ Below w.heap.size w w' := by
  obtain ⟨i0, hi0, hz0, hz1, hz2⟩ := info_parts intInfo
  have HX := hide h0.ilen
  go_enter Try.func13, Try.ntmps13
  go_wp2_with fail
  have k0 : Blk (w.alloc (.cells #[.int .i64 f1, .int .i64 t1] 34)) w.heap.size 34 [.int .i64 f1, .int .i64 t1] := Blk.new w 34 #[.int .i64 f1, .int .i64 t1]
  have b0 : Below w.heap.size w (w.alloc (.cells #[.int .i64 f1, .int .i64 t1] 34)) := (Below.refl _ _).alloc (Nat.le_refl _) _
  have z0 : (w.alloc (.cells #[.int .i64 f1, .int .i64 t1] 34)).heap.size = w.heap.size + 1 := by simp
  refine (part_any f1 t1 n0 _ (by omega)).mono ?_
  generalize (w.alloc (.cells #[.int .i64 f1, .int .i64 t1] 34)) = W0 at k0 b0 z0 ⊢
  rintro e w1 ⟨rfl, d1⟩
  have b1 : Below w.heap.size w w1 := b0.trans (d1.mono b0.size)
  have s1 : w.heap.size + 1 ≤ w1.heap.size := by have := d1.size; omega
  replace k0 := k0.below d1 (by omega)
  have hle := ends_le (f1, t1) n0
  obtain ⟨i, hi⟩ : ∃ i, lowEnd (f1, t1) n0 = i := ⟨_, rfl⟩
  obtain ⟨j, hj⟩ : ∃ j, highEnd (f1, t1) n0 = j := ⟨_, rfl⟩
  rw [hi, hj] at hle ⊢
  have hij := hle.1
  have hjn := hle.2
  have HI := hide hi
  have HJ := hide hj
  clear hi hj hle d1 b0 z0
  have q1 := fun W => run_slice_mid (P := Try.prog) W 22 3 i0 1 Try.underlying22 hi0 hz1 A0 n0 c0 .i64 .i64 i j hij (by omega)
  have v1 : Sees w1 (cutA A0 c0 i 1) (j - i) 1 (iv ((xs0.drop i).take (j - i))) := by
    have t1 := (h0.below b1).cutA (k := i) (m := j - i) (c := c0) (by omega) hc0
    rw [Nat.mul_one, Nat.mul_one, ← iv_drop, ← iv_take] at t1
    exact t1
  go_wp2_with fail
  refine (ReverseInts_any _ (j - i) (c0 - i) _ _ v1 (by omega)).mono ?_
  rintro e w2 ⟨Ar, cr, rfl, r, d2⟩
  have b2 : Below w.heap.size w w2 := b1.trans (d2.mono b1.size)
  have s2 : w1.heap.size ≤ w2.heap.size := d2.size
  replace k0 := k0.below d2 (by omega)
  clear d2
  go_wp2_with fail
  refine (ReplaceInts_ok A0 n0 c0 i j xs0 Ar (j - i) cr _ _ (h0.below b2) r.sees hij hjn (by omega) (by omega)).mono ?_
  rintro e w3 ⟨Ay, cy, rfl, y, d3⟩
  have b3 : Below w.heap.size w w3 := b2.trans (d3.mono b2.size)
  have s3 : w2.heap.size ≤ w3.heap.size := d3.size
  replace r := r.next d3
  replace k0 := k0.below d3 (by omega)
  clear d3
  rw [show i + (j - i) + (n0 - j) = n0 by omega] at y ⊢
  have x0 := k0.cell (i := 0) rfl
  have x1 := k0.cell (i := 1) rfl
  clear v1 q1
  go_wp2_with fail
  have z1 : Sees (w3.alloc (.cells #[.int .i64 f1, .int .i64 t1] 34)) (some ⟨w3.heap.size, 0, none⟩) 1 2 (pv [(f1, t1)]) := (Blk.new w3 34 #[.int .i64 f1, .int .i64 t1]).sees (off := 0) (n := 1) (sz := 2) (pre := []) (xs := pv [(f1, t1)]) (post := []) rfl rfl
  have z2 : Below w.heap.size w (w3.alloc (.cells #[.int .i64 f1, .int .i64 t1] 34)) := b3.alloc b3.size _
  have z3 := y.alloc (.cells #[.int .i64 f1, .int .i64 t1] 34)
  have z4 : w3.heap.size ≤ (w3.alloc (.cells #[.int .i64 f1, .int .i64 t1] 34)).heap.size := by simp
  clear x0 x1 k0 r
  refine (toParts_any _ 1 1 [(f1, t1)] _ z1 (by omega)).mono ?_
  clear z1
  generalize (w3.alloc (.cells #[.int .i64 f1, .int .i64 t1] 34)) = W3 at z2 z3 z4 ⊢
  rintro e w4 ⟨Ap, cp, rfl, p, d4⟩
  have b4 : Below w.heap.size w w4 := z2.trans (d4.mono z2.size)
  replace y := z3.below d4 z4
  clear d4 z2 z3 z4
  go_wp2_with fail
  refine (ReverseParts_any A0 Ap n0 1 c0 cp xs0 _ _ (h0.below b4) p.sees (by omega) (by omega)).mono ?_
  rintro e w5 ⟨Az, cz, rfl, z, d5⟩
  have b5 : Below w.heap.size w w5 := b4.trans (d5.mono b4.size)
  have s5 : w4.heap.size ≤ w5.heap.size := d5.size
  replace y := y.next d5
  clear d5
  have E1 : Hid (revAll [(f1, t1)] xs0 = ins xs0 i ((xs0.drop i).take (j - i)).reverse j) := by show _ = _; rw [revOne_all, revOne, HX.out, HI.out, HJ.out]; rfl
  rw [E1.out] at z
  go_wp2_with fail
  refine (sameInts_b Ay Az n0 n0 cy cz (ins xs0 i ((xs0.drop i).take (j - i)).reverse j) (ins xs0 i ((xs0.drop i).take (j - i)).reverse j) _ y.sees z.sees (by omega) (by omega)).mono ?_
  rintro e w6 ⟨rfl, d6⟩
  have b6 : Below w.heap.size w w6 := b5.trans (d6.mono b5.size)
  have s6 : w5.heap.size ≤ w6.heap.size := d6.size
  replace y := y.next d6
  replace z := z.next d6
  clear d6
  rw [decide_eq_true rfl]
  go_wp2_with fail
  go_ret
  exact ⟨rfl, b6⟩

set_option maxRecDepth 100000 in
theorem lifted (os : Os) (started : os.Started) (H : Type) (enc : TypeId × Value → H) :
    ReturnsInHanded {} Try.checked os 13 .any (Rows.fnReversePartIsReplaceSpec.pre6 enc Try.prog Try.f13 Rows.fnReversePartIsReplaceRow.domain false) (Rows.fnReversePartIsReplaceSpec.post enc Try.prog Try.f13 false true false false) := by
  refine returnsInHanded_of_change_sized (C := Try.checked) ownKnob_none started (by kernel_rfl) Try.func13
    (ChangeSpec.witness6 (enc := enc) (C := Try.checked) false ⟨#[], #[.slice none 0 0, .agg #[.int .i64 0, .int .i64 0]], []⟩ 8 (by kernel_rfl) (by kernel_rfl) (by kernel_rfl) (by kernel_rfl)) ?_
  intro W base args ds gs before hval0 hW hcnd hsz0 _
  have hsz : (DataW.weightsEach Try.prog (Try.f13.params.toList ++ Rows.fnReversePartIsReplaceSpec.plain.varTypes Try.prog) (ds ++ gs)).all (· ≤ reachBytes) = true := hsz0
  have hval : ∀ (j : Nat) t v, Try.f13.params[j]? = some t → args[j]? = some v → Value.okWide Try.prog W .any base t v := hval0
  have hW' := hW
  obtain ⟨p, q, hA0, hV, rfl, hfz, hnd⟩ := hW
  have hA : DataW.TrodAll enc Try.prog W 0 (fun _ => true) true Try.f13.params.toList args.toList ds p := hA0
  rw [Try.params13] at hA hval hsz
  obtain ⟨v0, vs0, d0, ds0, p0, q0, hargs, rfl, rfl, h0, r0⟩ := trodAll_cons hA
  obtain ⟨v1, vs1, d1, ds1, p1, q1, rfl, rfl, rfl, h1, r1⟩ := trodAll_cons r0
  obtain ⟨rfl, rfl, rfl⟩ := trodAll_nil r1
  obtain rfl : args = #[v0, v1] := by cases args; simp_all
  obtain ⟨rfl, rfl⟩ := trodVars_none hV
  have k0 := h0
  have lt0 : ∀ x ∈ p0, x.block < W.heap.size := by obtain ⟨m, hm⟩ := k0; exact DataW.trod_lt m _ _ _ hm
  obtain ⟨A0, n0, c0, xs0, rfl, s0, c0c, _, w0, z0, u0⟩ := arg_ints (hval 0 22 v0 rfl rfl) h0
  have k1 := h1
  have lt1 : ∀ x ∈ p1, x.block < W.heap.size := by obtain ⟨m, hm⟩ := k1; exact DataW.trod_lt m _ _ _ hm
  obtain ⟨x0, x1, y0, y1, m, rfl, rfl, rfl, hy0, hy1⟩ := Joins.open_agg2 Try.underlying34 (by kernel_rfl) (by kernel_rfl) (hval 1 34 v1 rfl rfl) h1
  obtain ⟨f1, e0, _, _⟩ := DataW.trod_int Try.underlying3 hy0
  obtain ⟨t1, e1, _, _⟩ := DataW.trod_int Try.underlying3 hy1
  simp only [List.cons.injEq, and_true] at e0 e1
  subst e0 e1
  clear hA0 hval0 hsz0
  refine (walk A0 n0 c0 xs0 f1 t1 W s0 c0c w0 (z0 (weights_arg hsz 0 rfl rfl))).mono fun e W' ⟨he, bel⟩ => ?_
  subst he
  exact ⟨_, rfl, _, _, _, [], _, [], hW', trodAll_mk1 (shut_bool Try.underlying4 _), (trodAll_cons_mk (Below.trod laidOut (by kernel_rfl) (of_decide_eq_true (by kernel_rfl)) k0 bel lt0) (trodAll_cons_mk (Below.trod laidOut (by kernel_rfl) (of_decide_eq_true (by kernel_rfl)) k1 bel lt1) trodAll_mk0)), rfl, bel.frame _, fun h => by cases h⟩

theorem over : Rows.fnReversePartIsReplaceRow.holds Try.pinned (OpenSpec.ofChange Rows.fnReversePartIsReplaceSpec) :=
  OpenClaim.holds_of_wide 13 Try.f13 rfl rfl rfl rfl rfl rfl rfl ⟨rfl, rfl, rfl, rfl, rfl⟩ rfl rfl rfl rfl rfl (by kernel_rfl) Try.func13 (by kernel_rfl)
    (of_decide_eq_true (by kernel_rfl)) (by unfold Func.isWrapper; first | (rw [if_pos (by decide +kernel)]; kernel_rfl) | (rw [if_neg (by decide +kernel)]; exact ⟨rfl, rfl⟩))
    (fun os started H enc _ => lifted os started H enc)

theorem proved : Rows.FnReversePartIsReplaceSaid := over
end Go.Proofs.Ytbcjcceejddocaa.fnReversePartIsReplace
