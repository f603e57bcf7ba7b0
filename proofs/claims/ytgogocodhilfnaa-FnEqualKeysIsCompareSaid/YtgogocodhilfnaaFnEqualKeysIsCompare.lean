/-
  The same by keys: slices.EqualFunc is true exactly if slices.CompareFunc is 0, and both are as those of the lists of keys; no condition.
-/
import Derived.Test.YtgogocodhilfnaaLift
import Derived.Test.YtgogocodhilfnaaCmpKeys
import Derived.Test.YtgogocodhilfnaaLiftPairs
namespace Go.Proofs.Ytgogocodhilfnaa.fnEqualKeysIsCompare
open Go.ChangeShapes Go.WideShapes Go.ChangeAt Go.RowKit
set_option linter.unusedVariables false

set_option maxHeartbeats 1000000 in
theorem walk (A0 : Option Addr) (n0 c0 : Nat) (ps0 : List (Int × Int)) (A1 : Option Addr) (n1 c1 : Nat) (ps1 : List (Int × Int)) (w : World) (h0 : Sees w A0 n0 2 (pv ps0)) (hc0 : n0 ≤ c0) (hw0 : ∀ x ∈ ps0, (Lit.int .i64 x.1).wf = true ∧ (Lit.int .i64 x.2).wf = true) (hn0 : n0 ≤ 8796093021952) (h1 : Sees w A1 n1 2 (pv ps1)) (hc1 : n1 ≤ c1) (hw1 : ∀ x ∈ ps1, (Lit.int .i64 x.1).wf = true ∧ (Lit.int .i64 x.2).wf = true) (hn1 : n1 ≤ 8796093021952) :
    Calls Try.prog 13 #[.slice A0 n0 c0, .slice A1 n1 c1] w fun e w' => e = .returned (.bool true) ∧ Below w.heap.size w w' := by
  obtain ⟨c, hc⟩ : ∃ c, cmpL (keys ps0) (keys ps1) = c := ⟨_, rfl⟩
  have hz : c = 0 ↔ keys ps0 = keys ps1 := hc ▸ cmpBy_zero (fun _ _ => cmpI_zero) (keys ps0) (keys ps1)
  have HC := hide hc
  clear hc
  have e0 : (c == c) = true := by simp
  by_cases he : c = 0
  · have HE : Hid (decide (keys ps0 = keys ps1) = true) := decide_eq_true (hz.1 he)
    clear hz
    subst he
    go_enter Try.func13, Try.ntmps13
    go_wp2_with fail
    refine (toItems_any A0 n0 c0 ps0 _ h0 (by omega)).mono ?_
    rintro e w1 ⟨Aa, ca, rfl, a, d1⟩
    have b1 : Below w.heap.size w w1 := (Below.refl w.heap.size w).trans (d1.mono (Below.refl w.heap.size w).size)
    have s1 : w.heap.size ≤ w1.heap.size := d1.size
    clear d1
    go_wp2_with fail
    refine (toItems_any A1 n1 c1 ps1 _ (h1.below b1) (by omega)).mono ?_
    rintro e w2 ⟨Ab, cb, rfl, b, d2⟩
    have b2 : Below w.heap.size w w2 := b1.trans (d2.mono b1.size)
    have s2 : w1.heap.size ≤ w2.heap.size := d2.size
    replace a := a.next d2
    clear d2
    go_wp2_with fail
    refine (CompareKeys_any Aa Ab n0 n1 ca cb ps0 ps1 _ a.sees b.sees (by omega) (by omega)).mono ?_
    rintro e w3 ⟨rfl, d3⟩
    have b3 : Below w.heap.size w w3 := b2.trans (d3.mono b2.size)
    have s3 : w2.heap.size ≤ w3.heap.size := d3.size
    replace a := a.next d3
    replace b := b.next d3
    clear d3
    rw [HC.out]
    go_wp2_with fail
    refine (EqualKeys_any Aa Ab n0 n1 ca cb ps0 ps1 _ a.sees b.sees (by omega) (by omega)).mono ?_
    rintro e w4 ⟨rfl, d4⟩
    have b4 : Below w.heap.size w w4 := b3.trans (d4.mono b3.size)
    have s4 : w3.heap.size ≤ w4.heap.size := d4.size
    replace a := a.next d4
    replace b := b.next d4
    clear d4
    rw [HE.out]
    go_wp2_with fail
    refine (keysOf_any Aa n0 ca ps0 _ a.sees (by omega)).mono ?_
    rintro e w5 ⟨Ap, cp, rfl, p, d5⟩
    have b5 : Below w.heap.size w w5 := b4.trans (d5.mono b4.size)
    have s5 : w4.heap.size ≤ w5.heap.size := d5.size
    replace a := a.next d5
    replace b := b.next d5
    clear d5
    go_wp2_with fail
    refine (keysOf_any Ab n1 cb ps1 _ b.sees (by omega)).mono ?_
    rintro e w6 ⟨Aq, cq, rfl, q, d6⟩
    have b6 : Below w.heap.size w w6 := b5.trans (d6.mono b5.size)
    have s6 : w5.heap.size ≤ w6.heap.size := d6.size
    replace a := a.next d6
    replace b := b.next d6
    replace p := p.next d6
    clear d6
    go_wp2_with fail
    refine (CompareInts_any Ap Aq n0 n1 cp cq (keys ps0) (keys ps1) _ p.sees q.sees (by omega) (by omega)).mono ?_
    rintro e w' ⟨rfl, rfl⟩
    rw [HC.out]
    go_wp2_with fail
    refine (EqualKeys_any Aa Ab n0 n1 ca cb ps0 ps1 _ a.sees b.sees (by omega) (by omega)).mono ?_
    rintro e w7 ⟨rfl, d7⟩
    have b7 : Below w.heap.size w w7 := b6.trans (d7.mono b6.size)
    have s7 : w6.heap.size ≤ w7.heap.size := d7.size
    replace a := a.next d7
    replace b := b.next d7
    replace p := p.next d7
    replace q := q.next d7
    clear d7
    rw [HE.out]
    go_wp2_with fail
    refine (keysOf_any Aa n0 ca ps0 _ a.sees (by omega)).mono ?_
    rintro e w8 ⟨Ar, cr, rfl, r, d8⟩
    have b8 : Below w.heap.size w w8 := b7.trans (d8.mono b7.size)
    have s8 : w7.heap.size ≤ w8.heap.size := d8.size
    replace a := a.next d8
    replace b := b.next d8
    replace p := p.next d8
    replace q := q.next d8
    clear d8
    go_wp2_with fail
    refine (keysOf_any Ab n1 cb ps1 _ b.sees (by omega)).mono ?_
    rintro e w9 ⟨As, cs, rfl, s, d9⟩
    have b9 : Below w.heap.size w w9 := b8.trans (d9.mono b8.size)
    have s9 : w8.heap.size ≤ w9.heap.size := d9.size
    replace a := a.next d9
    replace b := b.next d9
    replace p := p.next d9
    replace q := q.next d9
    replace r := r.next d9
    clear d9
    go_wp2_with fail
    refine (quiet_b (EqualInts_any Ar As n0 n1 cr cs (keys ps0) (keys ps1) _ r.sees s.sees (by omega) (by omega))).mono ?_
    rintro e w10 ⟨rfl, d10⟩
    have b10 : Below w.heap.size w w10 := b9.trans (d10.mono b9.size)
    have s10 : w9.heap.size ≤ w10.heap.size := d10.size
    replace a := a.next d10
    replace b := b.next d10
    replace p := p.next d10
    replace q := q.next d10
    replace r := r.next d10
    replace s := s.next d10
    clear d10
    rw [HE.out]
    go_wp2_with fail
    refine (EqualKeys_any Aa Aa n0 n0 ca ca ps0 ps0 _ a.sees a.sees (by omega) (by omega)).mono ?_
    rintro e w11 ⟨rfl, d11⟩
    have b11 : Below w.heap.size w w11 := b10.trans (d11.mono b10.size)
    have s11 : w10.heap.size ≤ w11.heap.size := d11.size
    replace a := a.next d11
    replace b := b.next d11
    replace p := p.next d11
    replace q := q.next d11
    replace r := r.next d11
    replace s := s.next d11
    clear d11
    rw [decide_eq_true rfl]
    go_wp2_with fail
    go_ret
    exact ⟨rfl, b11⟩
  · have HE : Hid (decide (keys ps0 = keys ps1) = false) := decide_eq_false (fun h => he (hz.2 h))
    clear hz
    have e1 : (c == 0) = false := by simp [he]
    clear he
    go_enter Try.func13, Try.ntmps13
    go_wp2_with fail
    refine (toItems_any A0 n0 c0 ps0 _ h0 (by omega)).mono ?_
    rintro e w1 ⟨Aa, ca, rfl, a, d1⟩
    have b1 : Below w.heap.size w w1 := (Below.refl w.heap.size w).trans (d1.mono (Below.refl w.heap.size w).size)
    have s1 : w.heap.size ≤ w1.heap.size := d1.size
    clear d1
    go_wp2_with fail
    refine (toItems_any A1 n1 c1 ps1 _ (h1.below b1) (by omega)).mono ?_
    rintro e w2 ⟨Ab, cb, rfl, b, d2⟩
    have b2 : Below w.heap.size w w2 := b1.trans (d2.mono b1.size)
    have s2 : w1.heap.size ≤ w2.heap.size := d2.size
    replace a := a.next d2
    clear d2
    go_wp2_with fail
    refine (CompareKeys_any Aa Ab n0 n1 ca cb ps0 ps1 _ a.sees b.sees (by omega) (by omega)).mono ?_
    rintro e w3 ⟨rfl, d3⟩
    have b3 : Below w.heap.size w w3 := b2.trans (d3.mono b2.size)
    have s3 : w2.heap.size ≤ w3.heap.size := d3.size
    replace a := a.next d3
    replace b := b.next d3
    clear d3
    rw [HC.out]
    go_wp2_with fail
    refine (EqualKeys_any Aa Ab n0 n1 ca cb ps0 ps1 _ a.sees b.sees (by omega) (by omega)).mono ?_
    rintro e w4 ⟨rfl, d4⟩
    have b4 : Below w.heap.size w w4 := b3.trans (d4.mono b3.size)
    have s4 : w3.heap.size ≤ w4.heap.size := d4.size
    replace a := a.next d4
    replace b := b.next d4
    clear d4
    rw [HE.out]
    go_wp2_with fail
    refine (keysOf_any Aa n0 ca ps0 _ a.sees (by omega)).mono ?_
    rintro e w5 ⟨Ap, cp, rfl, p, d5⟩
    have b5 : Below w.heap.size w w5 := b4.trans (d5.mono b4.size)
    have s5 : w4.heap.size ≤ w5.heap.size := d5.size
    replace a := a.next d5
    replace b := b.next d5
    clear d5
    go_wp2_with fail
    refine (keysOf_any Ab n1 cb ps1 _ b.sees (by omega)).mono ?_
    rintro e w6 ⟨Aq, cq, rfl, q, d6⟩
    have b6 : Below w.heap.size w w6 := b5.trans (d6.mono b5.size)
    have s6 : w5.heap.size ≤ w6.heap.size := d6.size
    replace a := a.next d6
    replace b := b.next d6
    replace p := p.next d6
    clear d6
    go_wp2_with fail
    refine (CompareInts_any Ap Aq n0 n1 cp cq (keys ps0) (keys ps1) _ p.sees q.sees (by omega) (by omega)).mono ?_
    rintro e w' ⟨rfl, rfl⟩
    rw [HC.out]
    go_wp2_with fail
    refine (EqualKeys_any Aa Ab n0 n1 ca cb ps0 ps1 _ a.sees b.sees (by omega) (by omega)).mono ?_
    rintro e w7 ⟨rfl, d7⟩
    have b7 : Below w.heap.size w w7 := b6.trans (d7.mono b6.size)
    have s7 : w6.heap.size ≤ w7.heap.size := d7.size
    replace a := a.next d7
    replace b := b.next d7
    replace p := p.next d7
    replace q := q.next d7
    clear d7
    rw [HE.out]
    go_wp2_with fail
    refine (keysOf_any Aa n0 ca ps0 _ a.sees (by omega)).mono ?_
    rintro e w8 ⟨Ar, cr, rfl, r, d8⟩
    have b8 : Below w.heap.size w w8 := b7.trans (d8.mono b7.size)
    have s8 : w7.heap.size ≤ w8.heap.size := d8.size
    replace a := a.next d8
    replace b := b.next d8
    replace p := p.next d8
    replace q := q.next d8
    clear d8
    go_wp2_with fail
    refine (keysOf_any Ab n1 cb ps1 _ b.sees (by omega)).mono ?_
    rintro e w9 ⟨As, cs, rfl, s, d9⟩
    have b9 : Below w.heap.size w w9 := b8.trans (d9.mono b8.size)
    have s9 : w8.heap.size ≤ w9.heap.size := d9.size
    replace a := a.next d9
    replace b := b.next d9
    replace p := p.next d9
    replace q := q.next d9
    replace r := r.next d9
    clear d9
    go_wp2_with fail
    refine (quiet_b (EqualInts_any Ar As n0 n1 cr cs (keys ps0) (keys ps1) _ r.sees s.sees (by omega) (by omega))).mono ?_
    rintro e w10 ⟨rfl, d10⟩
    have b10 : Below w.heap.size w w10 := b9.trans (d10.mono b9.size)
    have s10 : w9.heap.size ≤ w10.heap.size := d10.size
    replace a := a.next d10
    replace b := b.next d10
    replace p := p.next d10
    replace q := q.next d10
    replace r := r.next d10
    replace s := s.next d10
    clear d10
    rw [HE.out]
    go_wp2_with fail
    refine (EqualKeys_any Aa Aa n0 n0 ca ca ps0 ps0 _ a.sees a.sees (by omega) (by omega)).mono ?_
    rintro e w11 ⟨rfl, d11⟩
    have b11 : Below w.heap.size w w11 := b10.trans (d11.mono b10.size)
    have s11 : w10.heap.size ≤ w11.heap.size := d11.size
    replace a := a.next d11
    replace b := b.next d11
    replace p := p.next d11
    replace q := q.next d11
    replace r := r.next d11
    replace s := s.next d11
    clear d11
    rw [decide_eq_true rfl]
    go_wp2_with fail
    go_ret
    exact ⟨rfl, b11⟩

set_option maxRecDepth 100000 in
theorem lifted (os : Os) (started : os.Started) (H : Type) (enc : TypeId × Value → H) :
    ReturnsInHanded {} Try.checked os 13 .any (Rows.fnEqualKeysIsCompareSpec.pre6 enc Try.prog Try.f13 Rows.fnEqualKeysIsCompareRow.domain false) (Rows.fnEqualKeysIsCompareSpec.post enc Try.prog Try.f13 false true false false) := by
  refine returnsInHanded_of_change_sized (C := Try.checked) ownKnob_none started (by kernel_rfl) Try.func13
    (ChangeSpec.witness6 (enc := enc) (C := Try.checked) false ⟨#[], #[.slice none 0 0, .slice none 0 0], []⟩ 8 (by kernel_rfl) (by kernel_rfl) (by kernel_rfl) (by kernel_rfl)) ?_
  intro W base args ds gs before hval0 hW hcnd hsz0 _
  have hsz : (DataW.weightsEach Try.prog (Try.f13.params.toList ++ Rows.fnEqualKeysIsCompareSpec.plain.varTypes Try.prog) (ds ++ gs)).all (· ≤ reachBytes) = true := hsz0
  have hval : ∀ (j : Nat) t v, Try.f13.params[j]? = some t → args[j]? = some v → Value.okWide Try.prog W .any base t v := hval0
  have hW' := hW
  obtain ⟨p, q, hA0, hV, rfl, hfz, hnd⟩ := hW
  have hA : DataW.TrodAll enc Try.prog W 0 (fun _ => true) true Try.f13.params.toList args.toList ds p := hA0
  rw [Try.params13] at hA hval hsz
  obtain ⟨v0, vs0, d0, ds0, p0, q0, hargs, rfl, rfl, h0, r0⟩ := trodAll_cons hA
  obtain ⟨v1, vs1, d1, ds1, p1, q1, rfl, rfl, rfl, h1, r1⟩ := trodAll_cons r0
  obtain ⟨rfl, rfl, rfl⟩ := trodAll_nil r1
  obtain rfl : args = #[v0, v1] := by cases args; simp_all
  obtain ⟨rfl, rfl⟩ := trodVars_none hV
  have k0 := h0
  have lt0 : ∀ x ∈ p0, x.block < W.heap.size := by obtain ⟨m, hm⟩ := k0; exact DataW.trod_lt m _ _ _ hm
  obtain ⟨A0, n0, c0, ps0, rfl, s0, c0c, _, w0, z0, u0⟩ := arg_Entry (hval 0 40 v0 rfl rfl) h0
  have k1 := h1
  have lt1 : ∀ x ∈ p1, x.block < W.heap.size := by obtain ⟨m, hm⟩ := k1; exact DataW.trod_lt m _ _ _ hm
  obtain ⟨A1, n1, c1, ps1, rfl, s1, c1c, _, w1, z1, u1⟩ := arg_Entry (hval 1 40 v1 rfl rfl) h1
  clear hA0 hval0 hsz0
  refine (walk A0 n0 c0 ps0 A1 n1 c1 ps1 W s0 c0c w0 (z0 (weights_arg hsz 0 rfl rfl)) s1 c1c w1 (z1 (weights_arg hsz 1 rfl rfl))).mono fun e W' ⟨he, bel⟩ => ?_
  subst he
  exact ⟨_, rfl, _, _, _, [], _, [], hW', trodAll_mk1 (shut_bool Try.underlying4 _), (trodAll_cons_mk (Below.trod laidOut (by kernel_rfl) (of_decide_eq_true (by kernel_rfl)) k0 bel lt0) (trodAll_cons_mk (Below.trod laidOut (by kernel_rfl) (of_decide_eq_true (by kernel_rfl)) k1 bel lt1) trodAll_mk0)), rfl, bel.frame _, fun h => by cases h⟩

theorem over : Rows.fnEqualKeysIsCompareRow.holds Try.pinned (OpenSpec.ofChange Rows.fnEqualKeysIsCompareSpec) :=
  OpenClaim.holds_of_wide 13 Try.f13 rfl rfl rfl rfl rfl rfl rfl ⟨rfl, rfl, rfl, rfl, rfl⟩ rfl rfl rfl rfl rfl (by kernel_rfl) Try.func13 (by kernel_rfl)
    (of_decide_eq_true (by kernel_rfl)) (by unfold Func.isWrapper; first | (rw [if_pos (by decide +kernel)]; kernel_rfl) | (rw [if_neg (by decide +kernel)]; exact ⟨rfl, rfl⟩))
    (fun os started H enc _ => lifted os started H enc)

theorem proved : Rows.FnEqualKeysIsCompareSaid := over
end Go.Proofs.Ytgogocodhilfnaa.fnEqualKeysIsCompare
