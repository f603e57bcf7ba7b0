/-
  A list is less than the same with more numbers behind it, and what is put in front of both makes no difference; for arguments of bulk at most 1048576.
-/
import Derived.Test.YtgogocodhilfnaaLift
import Derived.Test.YtgogocodhilfnaaCmp
namespace Go.Proofs.Ytgogocodhilfnaa.fnCompareOfBeginnings
open Go.ChangeShapes Go.WideShapes Go.ChangeAt Go.RowKit
set_option linter.unusedVariables false

theorem longer {c : Int → Int → Int} (hc : ∀ a, c a a = 0) (xs ys : List Int) (h : ¬ ys = []) : cmpBy c xs (xs ++ ys) = -1 := by
  have h1 := cmpBy_front hc xs [] ys
  rw [List.append_nil] at h1
  rw [h1]
  cases ys with
  | nil => exact absurd rfl h
  | cons y ys => rfl
theorem shorter {c : Int → Int → Int} (hc : ∀ a, c a a = 0) (xs : List Int) (y : Int) : cmpBy c (xs ++ [y]) xs = 1 := by
  have h1 := cmpBy_front hc xs [y] []
  rw [List.append_nil] at h1
  rw [h1]
  rfl

set_option maxHeartbeats 1000000 in
theorem walk (A0 : Option Addr) (n0 c0 : Nat) (xs0 : List Int) (A1 : Option Addr) (n1 c1 : Nat) (xs1 : List Int) (A2 : Option Addr) (n2 c2 : Nat) (xs2 : List Int) (w : World) (h0 : Sees w A0 n0 1 (iv xs0)) (hc0 : n0 ≤ c0) (hw0 : ∀ x ∈ xs0, (Lit.int .i64 x).wf = true) (h1 : Sees w A1 n1 1 (iv xs1)) (hc1 : n1 ≤ c1) (hw1 : ∀ x ∈ xs1, (Lit.int .i64 x).wf = true) (h2 : Sees w A2 n2 1 (iv xs2)) (hc2 : n2 ≤ c2) (hw2 : ∀ x ∈ xs2, (Lit.int .i64 x).wf = true) (hup : n0 + n1 + n2 ≤ 1048576) :
    Calls Try.prog 8 #[.slice A0 n0 c0, .slice A1 n1 c1, .slice A2 n2 c2] w fun e w' => e = .returned (.bool true) ∧ Below w.heap.size w w' := by
  have HF : Hid (cmpL (xs2 ++ xs0) (xs2 ++ xs1) = cmpL xs0 xs1) := cmpBy_front cmpI_self xs2 xs0 xs1
  have e1 : (cmpL xs0 xs1 == cmpL xs0 xs1) = true := by simp
  by_cases hy : 0 < n1
  · have HY : Hid (cmpL xs0 (xs0 ++ xs1) = -1) := longer cmpI_self xs0 xs1 (fun h => by have := h1.ilen; rw [h] at this; simp at this; omega)
    have e2 : decide ((0 : Int) < (n1 : Int)) = true := by simp; omega
    go_enter Try.func8, Try.ntmps8
    go_wp2_with fail
    refine (joined_any A0 A1 n0 n1 c0 c1 xs0 xs1 _ h0 h1 (by omega)).mono ?_
    rintro e w1 ⟨Aa, ca, rfl, a, d1⟩
    have b1 : Below w.heap.size w w1 := (Below.refl w.heap.size w).trans (d1.mono (Below.refl w.heap.size w).size)
    have s1 : w.heap.size ≤ w1.heap.size := d1.size
    clear d1
    go_wp2_with fail
    refine (CompareInts_any A0 Aa n0 (n0 + n1) c0 ca xs0 (xs0 ++ xs1) _ (h0.below b1) a.sees (by omega) (by omega)).mono ?_
    rintro e w' ⟨rfl, rfl⟩
    rw [HY.out]
    go_wp2_with fail
    refine (joined_any A2 A0 n2 n0 c2 c0 xs2 xs0 _ (h2.below b1) (h0.below b1) (by omega)).mono ?_
    rintro e w2 ⟨Ap, cp, rfl, p, d2⟩
    have b2 : Below w.heap.size w w2 := b1.trans (d2.mono b1.size)
    have s2 : w1.heap.size ≤ w2.heap.size := d2.size
    replace a := a.next d2
    clear d2
    go_wp2_with fail
    refine (joined_any A2 A1 n2 n1 c2 c1 xs2 xs1 _ (h2.below b2) (h1.below b2) (by omega)).mono ?_
    rintro e w3 ⟨Aq, cq, rfl, q, d3⟩
    have b3 : Below w.heap.size w w3 := b2.trans (d3.mono b2.size)
    have s3 : w2.heap.size ≤ w3.heap.size := d3.size
    replace a := a.next d3
    replace p := p.next d3
    clear d3
    go_wp2_with fail
    refine (CompareInts_any Ap Aq (n2 + n0) (n2 + n1) cp cq (xs2 ++ xs0) (xs2 ++ xs1) _ p.sees q.sees (by omega) (by omega)).mono ?_
    rintro e w' ⟨rfl, rfl⟩
    rw [HF.out]
    go_wp2_with fail
    refine (CompareInts_any A0 A1 n0 n1 c0 c1 xs0 xs1 _ (h0.below b3) (h1.below b3) (by omega) (by omega)).mono ?_
    rintro e w' ⟨rfl, rfl⟩
    go_wp2_with fail
    have z1 : Sees (w3.alloc (.cells #[.int .i64 0] 3)) (some ⟨w3.heap.size, 0, none⟩) 1 1 (iv [0]) := (Blk.new w3 3 #[.int .i64 0]).sees (pre := []) (post := []) rfl rfl
    have z2 : Sees (w3.alloc (.cells #[.int .i64 0] 3)) A0 n0 1 (iv xs0) := (h0.below b3).alloc _
    have z3 : Below w.heap.size w (w3.alloc (.cells #[.int .i64 0] 3)) := b3.alloc b3.size _
    refine (joined_any A0 _ n0 1 c0 1 xs0 [0] _ z2 z1 (by omega)).mono ?_
    rintro e v1 ⟨Ar, cr, rfl, r, d1⟩
    have z4 : Below w.heap.size w v1 := z3.trans (d1.mono z3.size)
    go_wp2_with fail
    refine (CompareInts_any Ar A0 (n0 + 1) n0 cr c0 (xs0 ++ [0]) xs0 _ r.sees (h0.below z4) (by omega) (by omega)).mono ?_
    rintro e w' ⟨rfl, rfl⟩
    rw [show cmpL (xs0 ++ [0]) xs0 = 1 from shorter cmpI_self xs0 0]
    go_wp2_with fail
    go_ret
    exact ⟨rfl, z4⟩
  · have e2 : decide ((0 : Int) < (n1 : Int)) = false := by simp; omega
    go_enter Try.func8, Try.ntmps8
    go_wp2_with fail
    refine (joined_any A2 A0 n2 n0 c2 c0 xs2 xs0 _ h2 h0 (by omega)).mono ?_
    rintro e w1 ⟨Ap, cp, rfl, p, d1⟩
    have b1 : Below w.heap.size w w1 := (Below.refl w.heap.size w).trans (d1.mono (Below.refl w.heap.size w).size)
    have s1 : w.heap.size ≤ w1.heap.size := d1.size
    clear d1
    go_wp2_with fail
    refine (joined_any A2 A1 n2 n1 c2 c1 xs2 xs1 _ (h2.below b1) (h1.below b1) (by omega)).mono ?_
    rintro e w2 ⟨Aq, cq, rfl, q, d2⟩
    have b2 : Below w.heap.size w w2 := b1.trans (d2.mono b1.size)
    have s2 : w1.heap.size ≤ w2.heap.size := d2.size
    replace p := p.next d2
    clear d2
    go_wp2_with fail
    refine (CompareInts_any Ap Aq (n2 + n0) (n2 + n1) cp cq (xs2 ++ xs0) (xs2 ++ xs1) _ p.sees q.sees (by omega) (by omega)).mono ?_
    rintro e w' ⟨rfl, rfl⟩
    rw [HF.out]
    go_wp2_with fail
    refine (CompareInts_any A0 A1 n0 n1 c0 c1 xs0 xs1 _ (h0.below b2) (h1.below b2) (by omega) (by omega)).mono ?_
    rintro e w' ⟨rfl, rfl⟩
    go_wp2_with fail
    have z1 : Sees (w2.alloc (.cells #[.int .i64 0] 3)) (some ⟨w2.heap.size, 0, none⟩) 1 1 (iv [0]) := (Blk.new w2 3 #[.int .i64 0]).sees (pre := []) (post := []) rfl rfl
    have z2 : Sees (w2.alloc (.cells #[.int .i64 0] 3)) A0 n0 1 (iv xs0) := (h0.below b2).alloc _
    have z3 : Below w.heap.size w (w2.alloc (.cells #[.int .i64 0] 3)) := b2.alloc b2.size _
    refine (joined_any A0 _ n0 1 c0 1 xs0 [0] _ z2 z1 (by omega)).mono ?_
    rintro e v1 ⟨Ar, cr, rfl, r, d1⟩
    have z4 : Below w.heap.size w v1 := z3.trans (d1.mono z3.size)
    go_wp2_with fail
    refine (CompareInts_any Ar A0 (n0 + 1) n0 cr c0 (xs0 ++ [0]) xs0 _ r.sees (h0.below z4) (by omega) (by omega)).mono ?_
    rintro e w' ⟨rfl, rfl⟩
    rw [show cmpL (xs0 ++ [0]) xs0 = 1 from shorter cmpI_self xs0 0]
    go_wp2_with fail
    go_ret
    exact ⟨rfl, z4⟩

set_option maxRecDepth 100000 in
theorem lifted (os : Os) (started : os.Started) (H : Type) (enc : TypeId × Value → H) (F : Stop.Interp) :
    ReturnsInHanded {} Try.checked os 8 .any ((Rows.OpenSpec.upto Rows.fnCompareOfBeginningsSpec).pre6 enc Try.prog Try.f8 Rows.fnCompareOfBeginningsUptoRow.domain false) (((Rows.OpenSpec.upto Rows.fnCompareOfBeginningsSpec).at F).post enc Try.prog Try.f8 false true false false) := by
  refine returnsInHanded_of_cond (C := Try.checked) (s := Rows.OpenSpec.upto Rows.fnCompareOfBeginningsSpec) (k := Rows.uptoSmall) rfl ownKnob_none started (by kernel_rfl) Try.func8
    (OpenSpec.witness (enc := enc) (C := Try.checked) (s := Rows.OpenSpec.upto Rows.fnCompareOfBeginningsSpec) (k := Rows.uptoSmall) rfl false ⟨#[], #[.slice none 0 0, .slice none 0 0, .slice none 0 0], []⟩ 8 (by kernel_rfl) (by kernel_rfl) (by kernel_rfl)
      (x := ([.nil, .nil, .nil], [], [])) (by kernel_rfl) rfl (by kernel_rfl)) ?_
  intro W base args ds gs before hval0 hW hcnd hk _
  have hval : ∀ (j : Nat) t v, Try.f8.params[j]? = some t → args[j]? = some v → Value.okWide Try.prog W .any base t v := hval0
  have hW' := hW
  obtain ⟨p, q, hA0, hV, rfl, hfz, hnd⟩ := hW
  have hA : DataW.TrodAll enc Try.prog W 0 (fun _ => true) true Try.f8.params.toList args.toList ds p := hA0
  rw [Try.params8] at hA hval
  obtain ⟨v0, vs0, d0, ds0, p0, q0, hargs, rfl, rfl, h0, r0⟩ := trodAll_cons hA
  obtain ⟨v1, vs1, d1, ds1, p1, q1, rfl, rfl, rfl, h1, r1⟩ := trodAll_cons r0
  obtain ⟨v2, vs2, d2, ds2, p2, q2, rfl, rfl, rfl, h2, r2⟩ := trodAll_cons r1
  obtain ⟨rfl, rfl, rfl⟩ := trodAll_nil r2
  obtain rfl : args = #[v0, v1, v2] := by cases args; simp_all
  obtain ⟨rfl, rfl⟩ := trodVars_none hV
  have k0 := h0
  have lt0 : ∀ x ∈ p0, x.block < W.heap.size := by obtain ⟨m, hm⟩ := k0; exact DataW.trod_lt m _ _ _ hm
  obtain ⟨A0, n0, c0, xs0, rfl, s0, c0c, _, w0, z0, u0⟩ := arg_ints (hval 0 22 v0 rfl rfl) h0
  have k1 := h1
  have lt1 : ∀ x ∈ p1, x.block < W.heap.size := by obtain ⟨m, hm⟩ := k1; exact DataW.trod_lt m _ _ _ hm
  obtain ⟨A1, n1, c1, xs1, rfl, s1, c1c, _, w1, z1, u1⟩ := arg_ints (hval 1 22 v1 rfl rfl) h1
  have k2 := h2
  have lt2 : ∀ x ∈ p2, x.block < W.heap.size := by obtain ⟨m, hm⟩ := k2; exact DataW.trod_lt m _ _ _ hm
  obtain ⟨A2, n2, c2, xs2, rfl, s2, c2c, _, w2, z2, u2⟩ := arg_ints (hval 2 22 v2 rfl rfl) h2
  clear hA0 hval0
  have hup : n0 + n1 + n2 ≤ 1048576 := by
    have hk1 := of_decide_eq_true hk
    simp only [List.append_nil, Rows.uptoBulkAll] at hk1
    omega
  refine (walk A0 n0 c0 xs0 A1 n1 c1 xs1 A2 n2 c2 xs2 W s0 c0c w0 s1 c1c w1 s2 c2c w2 hup).mono fun e W' ⟨he, bel⟩ => ?_
  subst he
  exact ⟨_, rfl, _, _, _, [], _, [], hW', trodAll_mk1 (shut_bool Try.underlying4 _), (trodAll_cons_mk (Below.trod laidOut (by kernel_rfl) (of_decide_eq_true (by kernel_rfl)) k0 bel lt0) (trodAll_cons_mk (Below.trod laidOut (by kernel_rfl) (of_decide_eq_true (by kernel_rfl)) k1 bel lt1) (trodAll_cons_mk (Below.trod laidOut (by kernel_rfl) (of_decide_eq_true (by kernel_rfl)) k2 bel lt2) trodAll_mk0))), rfl, bel.frame _, fun h => by cases h⟩

theorem over : Rows.fnCompareOfBeginningsUptoRow.holds Try.pinned (Rows.OpenSpec.upto Rows.fnCompareOfBeginningsSpec) :=
  OpenClaim.holds_of_cond 8 Try.f8 rfl rfl rfl rfl rfl rfl rfl ⟨rfl, rfl, rfl, rfl, rfl⟩ rfl rfl rfl rfl rfl (by kernel_rfl) Try.func8 (by kernel_rfl)
    (of_decide_eq_true (by kernel_rfl)) (by unfold Func.isWrapper; first | (rw [if_pos (by decide +kernel)]; kernel_rfl) | (rw [if_neg (by decide +kernel)]; exact ⟨rfl, rfl⟩))
    (fun os started H enc _ F => lifted os started H enc F)

theorem proved : Rows.FnCompareOfBeginningsUptoSaid := over
end Go.Proofs.Ytgogocodhilfnaa.fnCompareOfBeginnings
