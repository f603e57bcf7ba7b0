/-
  ReplaceInts, for every two lists and two numbers, returns what the reference returns, leaves its arguments as they were, and returns memory of its own; no condition.
-/
import Derived.Test.YtbcjcceejddocaaLift
import Derived.Test.YtbcjcceejddocaaRepW
namespace Go.Proofs.Ytbcjcceejddocaa.fnExactReplaceInts
open Go.ChangeShapes Go.WideShapes Go.ChangeAt Go.RowKit
set_option linter.unusedVariables false

set_option maxHeartbeats 4000000 in
set_option maxRecDepth 100000 in
theorem walk (A0 : Option Addr) (n0 c0 : Nat) (xs0 : List Int) (a1 : Int) (a2 : Int) (A3 : Option Addr) (n3 c3 : Nat) (xs3 : List Int) (w : World) (h0 : Sees w A0 n0 1 (iv xs0)) (hc0 : n0 ≤ c0) (hw0 : ∀ x ∈ xs0, (Lit.int .i64 x).wf = true) (hn0 : n0 ≤ 17592186043904) (hw1 : (Lit.int .i64 a1).wf = true) (hw2 : (Lit.int .i64 a2).wf = true) (h3 : Sees w A3 n3 1 (iv xs3)) (hc3 : n3 ≤ c3) (hw3 : ∀ x ∈ xs3, (Lit.int .i64 x).wf = true) (hn3 : n3 ≤ 17592186043904) :
    Calls Try.prog 9 #[.slice A0 n0 c0, .int .i64 a1, .int .i64 a2, .slice A3 n3 c3] w fun e w' => e = .returned (.bool true) ∧ Below w.heap.size w w' := by
  by_cases hbig : 1048576 < n0
  · go_enter Try.func9, Try.ntmps9
    go_wp2_with fail
    go_ret
    exact ⟨rfl, Below.refl _ _⟩
  by_cases hbig2 : 1048576 < n3
  · go_enter Try.func9, Try.ntmps9
    go_wp2_with fail
    go_ret
    exact ⟨rfl, Below.refl _ _⟩
  · by_cases hin : 0 ≤ a1 ∧ a1 ≤ a2 ∧ a2 ≤ (n0 : Int)
    · obtain ⟨i, rfl⟩ : ∃ i : Nat, a1 = (i : Int) := ⟨a1.toNat, by omega⟩
      obtain ⟨j, rfl⟩ : ∃ j : Nat, a2 = (j : Int) := ⟨a2.toNat, by omega⟩
      have hij : i ≤ j := by omega
      have hj : j ≤ n0 := by omega
      clear hin
      go_enter Try.func9, Try.ntmps9
      go_wp2_with fail
      refine (toIntS_any A0 n0 c0 xs0 _ h0 (by omega)).mono ?_
      rintro e w1 ⟨Aa, ca, rfl, a, d1⟩
      have b1 : Below w.heap.size w w1 := (Below.refl w.heap.size w).trans (d1.mono (Below.refl w.heap.size w).size)
      have s1 : w.heap.size ≤ w1.heap.size := d1.size
      clear d1
      go_wp2_with fail
      refine (toIntS_any A3 n3 c3 xs3 _ (h3.below b1) (by omega)).mono ?_
      rintro e w2 ⟨Ab, cb, rfl, b, d2⟩
      have b2 : Below w.heap.size w w2 := b1.trans (d2.mono b1.size)
      have s2 : w1.heap.size ≤ w2.heap.size := d2.size
      replace a := a.next d2
      clear d2
      go_wp2_with fail
      refine (specReplaceInts_ok Aa n0 ca i j xs0 Ab n3 cb xs3 _ a.sees b.sees a.cap.1 hij hj (by omega) (by omega)).mono ?_
      rintro e w3 ⟨Av, cv, rfl, v, d3⟩
      have b3 : Below w.heap.size w w3 := b2.trans (d3.mono b2.size)
      have s3 : w2.heap.size ≤ w3.heap.size := d3.size
      replace a := a.next d3
      replace b := b.next d3
      clear d3
      go_wp2_with fail
      refine (toIntS_any A0 n0 c0 xs0 _ (h0.below b3) (by omega)).mono ?_
      rintro e w4 ⟨Ax, cx, rfl, x, d4⟩
      have b4 : Below w.heap.size w w4 := b3.trans (d4.mono b3.size)
      have s4 : w3.heap.size ≤ w4.heap.size := d4.size
      replace a := a.next d4
      replace b := b.next d4
      replace v := v.next d4
      clear d4
      go_wp2_with fail
      refine (toIntS_any A3 n3 c3 xs3 _ (h3.below b4) (by omega)).mono ?_
      rintro e w5 ⟨Au, cu, rfl, u, d5⟩
      have b5 : Below w.heap.size w w5 := b4.trans (d5.mono b4.size)
      have s5 : w4.heap.size ≤ w5.heap.size := d5.size
      replace a := a.next d5
      replace b := b.next d5
      replace v := v.next d5
      replace x := x.next d5
      clear d5
      go_wp2_with fail
      refine (ReplaceInts_ok Ax n0 cx i j xs0 Au n3 cu xs3 _ x.sees u.sees hij hj (by omega) (by omega)).mono ?_
      rintro e w6 ⟨Ag, cg, rfl, g, d6⟩
      have b6 : Below w.heap.size w w6 := b5.trans (d6.mono b5.size)
      have s6 : w5.heap.size ≤ w6.heap.size := d6.size
      replace a := a.next d6
      replace b := b.next d6
      replace v := v.next d6
      replace x := x.next d6
      replace u := u.next d6
      clear d6
      go_wp2_with fail
      refine (eqIntS_b Ag Av (i + n3 + (n0 - j)) (i + n3 + (n0 - j)) cg cv (ins xs0 i xs3 j) (ins xs0 i xs3 j) _ g.sees v.sees (by omega) (by omega)).mono ?_
      rintro e w7 ⟨rfl, d7⟩
      have b7 : Below w.heap.size w w7 := b6.trans (d7.mono b6.size)
      have s7 : w6.heap.size ≤ w7.heap.size := d7.size
      replace a := a.next d7
      replace b := b.next d7
      replace v := v.next d7
      replace x := x.next d7
      replace u := u.next d7
      replace g := g.next d7
      clear d7
      rw [decide_eq_true rfl]
      go_wp2_with fail
      refine (toIntS_any A0 n0 c0 xs0 _ (h0.below b7) (by omega)).mono ?_
      rintro e w8 ⟨Ay, cy, rfl, y, d8⟩
      have b8 : Below w.heap.size w w8 := b7.trans (d8.mono b7.size)
      have s8 : w7.heap.size ≤ w8.heap.size := d8.size
      replace a := a.next d8
      replace b := b.next d8
      replace v := v.next d8
      replace x := x.next d8
      replace u := u.next d8
      replace g := g.next d8
      clear d8
      go_wp2_with fail
      refine (eqIntS_b Ax Ay n0 n0 cx cy xs0 xs0 _ x.sees y.sees (by omega) (by omega)).mono ?_
      rintro e w9 ⟨rfl, d9⟩
      have b9 : Below w.heap.size w w9 := b8.trans (d9.mono b8.size)
      have s9 : w8.heap.size ≤ w9.heap.size := d9.size
      replace a := a.next d9
      replace b := b.next d9
      replace v := v.next d9
      replace x := x.next d9
      replace u := u.next d9
      replace g := g.next d9
      replace y := y.next d9
      clear d9
      rw [decide_eq_true rfl]
      go_wp2_with fail
      refine (toIntS_any A3 n3 c3 xs3 _ (h3.below b9) (by omega)).mono ?_
      rintro e w10 ⟨Ay2, cy2, rfl, y2, d10⟩
      have b10 : Below w.heap.size w w10 := b9.trans (d10.mono b9.size)
      have s10 : w9.heap.size ≤ w10.heap.size := d10.size
      replace a := a.next d10
      replace b := b.next d10
      replace v := v.next d10
      replace x := x.next d10
      replace u := u.next d10
      replace g := g.next d10
      replace y := y.next d10
      clear d10
      go_wp2_with fail
      refine (eqIntS_b Au Ay2 n3 n3 cu cy2 xs3 xs3 _ u.sees y2.sees (by omega) (by omega)).mono ?_
      rintro e w11 ⟨rfl, d11⟩
      have b11 : Below w.heap.size w w11 := b10.trans (d11.mono b10.size)
      have s11 : w10.heap.size ≤ w11.heap.size := d11.size
      replace a := a.next d11
      replace b := b.next d11
      replace v := v.next d11
      replace x := x.next d11
      replace u := u.next d11
      replace g := g.next d11
      replace y := y.next d11
      replace y2 := y2.next d11
      clear d11
      rw [decide_eq_true rfl]
      go_wp2_with fail
      refine (markIntS_any Ax _ _ n0 cx 1 xs0 _ x (by omega) (by omega) (by omega)).mono ?_
      clear x
      rintro e w12 ⟨rfl, x, d12⟩
      have b12 : Below w.heap.size w w12 := b11.trans (d12.below (by omega) (by omega))
      have s12 : w11.heap.size ≤ w12.heap.size := d12.size
      replace a := a.only d12 (by omega)
      replace b := b.only d12 (by omega)
      replace v := v.only d12 (by omega)
      replace u := u.only d12 (by omega)
      replace g := g.only d12 (by omega)
      replace y := y.only d12 (by omega)
      replace y2 := y2.only d12 (by omega)
      clear d12
      go_wp2_with fail
      refine (markIntS_any Au _ _ n3 cu (1 + (n0 : Int)) xs3 _ u (by omega) (by omega) (by omega)).mono ?_
      clear u
      rintro e w13 ⟨rfl, u, d13⟩
      have b13 : Below w.heap.size w w13 := b12.trans (d13.below (by omega) (by omega))
      have s13 : w12.heap.size ≤ w13.heap.size := d13.size
      replace a := a.only d13 (by omega)
      replace b := b.only d13 (by omega)
      replace v := v.only d13 (by omega)
      replace x := x.only d13 (by omega)
      replace g := g.only d13 (by omega)
      replace y := y.only d13 (by omega)
      replace y2 := y2.only d13 (by omega)
      clear d13
      have t1 : ¬ (1 + (n0 : Int) + (n3 : Int) < 0) := by omega
      go_wp2_with fail
      refine (eqIntS_b Ag Av (i + n3 + (n0 - j)) (i + n3 + (n0 - j)) cg cv (ins xs0 i xs3 j) (ins xs0 i xs3 j) _ g.sees v.sees (by omega) (by omega)).mono ?_
      rintro e w14 ⟨rfl, d14⟩
      have b14 : Below w.heap.size w w14 := b13.trans (d14.mono b13.size)
      have s14 : w13.heap.size ≤ w14.heap.size := d14.size
      replace a := a.next d14
      replace b := b.next d14
      replace v := v.next d14
      replace x := x.next d14
      replace u := u.next d14
      replace g := g.next d14
      replace y := y.next d14
      replace y2 := y2.next d14
      clear d14
      rw [decide_eq_true rfl]
      go_wp2_with fail
      refine (markIntS_any Ag _ _ (i + n3 + (n0 - j)) cg 1 (ins xs0 i xs3 j) _ g (by omega) (by omega) (by omega)).mono ?_
      clear g
      rintro e w15 ⟨rfl, g, d15⟩
      have b15 : Below w.heap.size w w15 := b14.trans (d15.below (by omega) (by omega))
      have s15 : w14.heap.size ≤ w15.heap.size := d15.size
      replace a := a.only d15 (by omega)
      replace b := b.only d15 (by omega)
      replace v := v.only d15 (by omega)
      replace x := x.only d15 (by omega)
      replace u := u.only d15 (by omega)
      replace y := y.only d15 (by omega)
      replace y2 := y2.only d15 (by omega)
      clear d15
      go_wp2_with fail
      refine (heldIntS_any Ag (i + n3 + (n0 - j)) cg 1 _ g.sees (by omega) (by omega) (by omega)).mono ?_
      rintro e w' ⟨rfl, rfl⟩
      have t2 : (1 + (((i + n3 + (n0 - j)) : Nat) : Int) != 1 + (((i + n3 + (n0 - j)) : Nat) : Int)) = false := by simp
      go_wp2_with fail
      refine (toIntS_any A0 n0 c0 xs0 _ (h0.below b15) (by omega)).mono ?_
      rintro e w16 ⟨Az, cz, rfl, z, d16⟩
      have b16 : Below w.heap.size w w16 := b15.trans (d16.mono b15.size)
      have s16 : w15.heap.size ≤ w16.heap.size := d16.size
      replace a := a.next d16
      replace b := b.next d16
      replace v := v.next d16
      replace x := x.next d16
      replace u := u.next d16
      replace g := g.next d16
      replace y := y.next d16
      replace y2 := y2.next d16
      clear d16
      go_wp2_with fail
      refine (toIntS_any A3 n3 c3 xs3 _ (h3.below b16) (by omega)).mono ?_
      rintro e w17 ⟨Az2, cz2, rfl, z2, d17⟩
      have b17 : Below w.heap.size w w17 := b16.trans (d17.mono b16.size)
      have s17 : w16.heap.size ≤ w17.heap.size := d17.size
      replace a := a.next d17
      replace b := b.next d17
      replace v := v.next d17
      replace x := x.next d17
      replace u := u.next d17
      replace g := g.next d17
      replace y := y.next d17
      replace y2 := y2.next d17
      replace z := z.next d17
      clear d17
      go_wp2_with fail
      refine (ReplaceInts_ok Az n0 cz i j xs0 Az2 n3 cz2 xs3 _ z.sees z2.sees hij hj (by omega) (by omega)).mono ?_
      rintro e w18 ⟨Ah, ch, rfl, h, d18⟩
      have b18 : Below w.heap.size w w18 := b17.trans (d18.mono b17.size)
      have s18 : w17.heap.size ≤ w18.heap.size := d18.size
      replace a := a.next d18
      replace b := b.next d18
      replace v := v.next d18
      replace x := x.next d18
      replace u := u.next d18
      replace g := g.next d18
      replace y := y.next d18
      replace y2 := y2.next d18
      replace z := z.next d18
      replace z2 := z2.next d18
      clear d18
      go_wp2_with fail
      refine (eqIntS_b Ah Av (i + n3 + (n0 - j)) (i + n3 + (n0 - j)) ch cv (ins xs0 i xs3 j) (ins xs0 i xs3 j) _ h.sees v.sees (by omega) (by omega)).mono ?_
      rintro e w19 ⟨rfl, d19⟩
      have b19 : Below w.heap.size w w19 := b18.trans (d19.mono b18.size)
      have s19 : w18.heap.size ≤ w19.heap.size := d19.size
      replace a := a.next d19
      replace b := b.next d19
      replace v := v.next d19
      replace x := x.next d19
      replace u := u.next d19
      replace g := g.next d19
      replace y := y.next d19
      replace y2 := y2.next d19
      replace z := z.next d19
      replace z2 := z2.next d19
      replace h := h.next d19
      clear d19
      rw [decide_eq_true rfl]
      go_wp2_with fail
      refine (heldIntS_any Ag (i + n3 + (n0 - j)) cg 1 _ g.sees (by omega) (by omega) (by omega)).mono ?_
      rintro e w' ⟨rfl, rfl⟩
      go_wp2_with fail
      go_ret
      exact ⟨rfl, b19⟩
    · have hout : a2 < 0 ∨ (n0 : Int) < a2 ∨ a1 < 0 ∨ a2 < a1 := by omega
      have HO := hide hout
      clear hout hin
      go_enter Try.func9, Try.ntmps9
      go_wp2_with fail
      refine (toIntS_any A0 n0 c0 xs0 _ h0 (by omega)).mono ?_
      rintro e w1 ⟨Aa, ca, rfl, a, d1⟩
      have b1 : Below w.heap.size w w1 := (Below.refl w.heap.size w).trans (d1.mono (Below.refl w.heap.size w).size)
      have s1 : w.heap.size ≤ w1.heap.size := d1.size
      clear d1
      go_wp2_with fail
      refine (toIntS_any A3 n3 c3 xs3 _ (h3.below b1) (by omega)).mono ?_
      rintro e w2 ⟨Ab, cb, rfl, b, d2⟩
      have b2 : Below w.heap.size w w2 := b1.trans (d2.mono b1.size)
      have s2 : w1.heap.size ≤ w2.heap.size := d2.size
      replace a := a.next d2
      clear d2
      go_wp2_with fail
      refine (specReplaceInts_bad Aa n0 ca a1 a2 _ _ (by omega) HO.out).mono ?_
      rintro e w3 ⟨rfl, d3⟩
      have b3 : Below w.heap.size w w3 := b2.trans (d3.mono b2.size)
      have s3 : w2.heap.size ≤ w3.heap.size := d3.size
      replace a := a.next d3
      replace b := b.next d3
      clear d3
      go_wp2_with fail
      refine (toIntS_any A0 n0 c0 xs0 _ (h0.below b3) (by omega)).mono ?_
      rintro e w4 ⟨Ax, cx, rfl, x, d4⟩
      have b4 : Below w.heap.size w w4 := b3.trans (d4.mono b3.size)
      have s4 : w3.heap.size ≤ w4.heap.size := d4.size
      replace a := a.next d4
      replace b := b.next d4
      clear d4
      go_wp2_with fail
      refine (toIntS_any A3 n3 c3 xs3 _ (h3.below b4) (by omega)).mono ?_
      rintro e w5 ⟨Au, cu, rfl, u, d5⟩
      have b5 : Below w.heap.size w w5 := b4.trans (d5.mono b4.size)
      have s5 : w4.heap.size ≤ w5.heap.size := d5.size
      replace a := a.next d5
      replace b := b.next d5
      replace x := x.next d5
      clear d5
      go_wp2_with fail
      refine (ReplaceInts_bad Ax n0 cx a1 a2 xs0 Au n3 cu _ x.sees (by omega) HO.out).mono ?_
      rintro e w6 ⟨rfl, d6⟩
      have b6 : Below w.heap.size w w6 := b5.trans (d6.mono b5.size)
      have s6 : w5.heap.size ≤ w6.heap.size := d6.size
      replace a := a.next d6
      replace b := b.next d6
      replace x := x.next d6
      replace u := u.next d6
      clear d6
      go_wp2_with fail
      refine (eqIntS_b none none 0 0 0 0 [] [] _ Sees.nil_ Sees.nil_ (by omega) (by omega)).mono ?_
      rintro e w7 ⟨rfl, d7⟩
      have b7 : Below w.heap.size w w7 := b6.trans (d7.mono b6.size)
      have s7 : w6.heap.size ≤ w7.heap.size := d7.size
      replace a := a.next d7
      replace b := b.next d7
      replace x := x.next d7
      replace u := u.next d7
      clear d7
      rw [decide_eq_true rfl]
      go_wp2_with fail
      refine (toIntS_any A0 n0 c0 xs0 _ (h0.below b7) (by omega)).mono ?_
      rintro e w8 ⟨Ay, cy, rfl, y, d8⟩
      have b8 : Below w.heap.size w w8 := b7.trans (d8.mono b7.size)
      have s8 : w7.heap.size ≤ w8.heap.size := d8.size
      replace a := a.next d8
      replace b := b.next d8
      replace x := x.next d8
      replace u := u.next d8
      clear d8
      go_wp2_with fail
      refine (eqIntS_b Ax Ay n0 n0 cx cy xs0 xs0 _ x.sees y.sees (by omega) (by omega)).mono ?_
      rintro e w9 ⟨rfl, d9⟩
      have b9 : Below w.heap.size w w9 := b8.trans (d9.mono b8.size)
      have s9 : w8.heap.size ≤ w9.heap.size := d9.size
      replace a := a.next d9
      replace b := b.next d9
      replace x := x.next d9
      replace u := u.next d9
      replace y := y.next d9
      clear d9
      rw [decide_eq_true rfl]
      go_wp2_with fail
      refine (toIntS_any A3 n3 c3 xs3 _ (h3.below b9) (by omega)).mono ?_
      rintro e w10 ⟨Ay2, cy2, rfl, y2, d10⟩
      have b10 : Below w.heap.size w w10 := b9.trans (d10.mono b9.size)
      have s10 : w9.heap.size ≤ w10.heap.size := d10.size
      replace a := a.next d10
      replace b := b.next d10
      replace x := x.next d10
      replace u := u.next d10
      replace y := y.next d10
      clear d10
      go_wp2_with fail
      refine (eqIntS_b Au Ay2 n3 n3 cu cy2 xs3 xs3 _ u.sees y2.sees (by omega) (by omega)).mono ?_
      rintro e w11 ⟨rfl, d11⟩
      have b11 : Below w.heap.size w w11 := b10.trans (d11.mono b10.size)
      have s11 : w10.heap.size ≤ w11.heap.size := d11.size
      replace a := a.next d11
      replace b := b.next d11
      replace x := x.next d11
      replace u := u.next d11
      replace y := y.next d11
      replace y2 := y2.next d11
      clear d11
      rw [decide_eq_true rfl]
      go_wp2_with fail
      refine (markIntS_any Ax _ _ n0 cx 1 xs0 _ x (by omega) (by omega) (by omega)).mono ?_
      clear x
      rintro e w12 ⟨rfl, x, d12⟩
      have b12 : Below w.heap.size w w12 := b11.trans (d12.below (by omega) (by omega))
      have s12 : w11.heap.size ≤ w12.heap.size := d12.size
      replace a := a.only d12 (by omega)
      replace b := b.only d12 (by omega)
      replace u := u.only d12 (by omega)
      replace y := y.only d12 (by omega)
      replace y2 := y2.only d12 (by omega)
      clear d12
      go_wp2_with fail
      refine (markIntS_any Au _ _ n3 cu (1 + (n0 : Int)) xs3 _ u (by omega) (by omega) (by omega)).mono ?_
      clear u
      rintro e w13 ⟨rfl, u, d13⟩
      have b13 : Below w.heap.size w w13 := b12.trans (d13.below (by omega) (by omega))
      have s13 : w12.heap.size ≤ w13.heap.size := d13.size
      replace a := a.only d13 (by omega)
      replace b := b.only d13 (by omega)
      replace x := x.only d13 (by omega)
      replace y := y.only d13 (by omega)
      replace y2 := y2.only d13 (by omega)
      clear d13
      have t1 : ¬ (1 + (n0 : Int) + (n3 : Int) < 0) := by omega
      go_wp2_with fail
      refine (eqIntS_b none none 0 0 0 0 [] [] _ Sees.nil_ Sees.nil_ (by omega) (by omega)).mono ?_
      rintro e w14 ⟨rfl, d14⟩
      have b14 : Below w.heap.size w w14 := b13.trans (d14.mono b13.size)
      have s14 : w13.heap.size ≤ w14.heap.size := d14.size
      replace a := a.next d14
      replace b := b.next d14
      replace x := x.next d14
      replace u := u.next d14
      replace y := y.next d14
      replace y2 := y2.next d14
      clear d14
      rw [decide_eq_true rfl]
      go_wp2_with fail
      refine (markIntS_nil 1 _).mono ?_
      rintro e w' ⟨rfl, rfl⟩
      go_wp2_with fail
      refine (heldIntS_nil 1 _).mono ?_
      rintro e w' ⟨rfl, rfl⟩
      go_wp2_with fail
      refine (toIntS_any A0 n0 c0 xs0 _ (h0.below b14) (by omega)).mono ?_
      rintro e w15 ⟨Az, cz, rfl, z, d15⟩
      have b15 : Below w.heap.size w w15 := b14.trans (d15.mono b14.size)
      have s15 : w14.heap.size ≤ w15.heap.size := d15.size
      replace a := a.next d15
      replace b := b.next d15
      replace x := x.next d15
      replace u := u.next d15
      replace y := y.next d15
      replace y2 := y2.next d15
      clear d15
      go_wp2_with fail
      refine (toIntS_any A3 n3 c3 xs3 _ (h3.below b15) (by omega)).mono ?_
      rintro e w16 ⟨Az2, cz2, rfl, z2, d16⟩
      have b16 : Below w.heap.size w w16 := b15.trans (d16.mono b15.size)
      have s16 : w15.heap.size ≤ w16.heap.size := d16.size
      replace a := a.next d16
      replace b := b.next d16
      replace x := x.next d16
      replace u := u.next d16
      replace y := y.next d16
      replace y2 := y2.next d16
      replace z := z.next d16
      clear d16
      go_wp2_with fail
      refine (ReplaceInts_bad Az n0 cz a1 a2 xs0 Az2 n3 cz2 _ z.sees (by omega) HO.out).mono ?_
      rintro e w17 ⟨rfl, d17⟩
      have b17 : Below w.heap.size w w17 := b16.trans (d17.mono b16.size)
      have s17 : w16.heap.size ≤ w17.heap.size := d17.size
      replace a := a.next d17
      replace b := b.next d17
      replace x := x.next d17
      replace u := u.next d17
      replace y := y.next d17
      replace y2 := y2.next d17
      replace z := z.next d17
      replace z2 := z2.next d17
      clear d17
      go_wp2_with fail
      refine (eqIntS_b none none 0 0 0 0 [] [] _ Sees.nil_ Sees.nil_ (by omega) (by omega)).mono ?_
      rintro e w18 ⟨rfl, d18⟩
      have b18 : Below w.heap.size w w18 := b17.trans (d18.mono b17.size)
      have s18 : w17.heap.size ≤ w18.heap.size := d18.size
      replace a := a.next d18
      replace b := b.next d18
      replace x := x.next d18
      replace u := u.next d18
      replace y := y.next d18
      replace y2 := y2.next d18
      replace z := z.next d18
      replace z2 := z2.next d18
      clear d18
      rw [decide_eq_true rfl]
      go_wp2_with fail
      refine (heldIntS_nil 1 _).mono ?_
      rintro e w' ⟨rfl, rfl⟩
      go_wp2_with fail
      go_ret
      exact ⟨rfl, b18⟩

set_option maxRecDepth 100000 in
theorem lifted (os : Os) (started : os.Started) (H : Type) (enc : TypeId × Value → H) :
    ReturnsInHanded {} Try.checked os 9 .any (Rows.fnExactReplaceIntsSpec.pre6 enc Try.prog Try.f9 Rows.fnExactReplaceIntsRow.domain false) (Rows.fnExactReplaceIntsSpec.post enc Try.prog Try.f9 false true false false) := by
  refine returnsInHanded_of_change_sized (C := Try.checked) ownKnob_none started (by kernel_rfl) Try.func9
    (ChangeSpec.witness6 (enc := enc) (C := Try.checked) false ⟨#[], #[.slice none 0 0, .int .i64 0, .int .i64 0, .slice none 0 0], []⟩ 8 (by kernel_rfl) (by kernel_rfl) (by kernel_rfl) (by kernel_rfl)) ?_
  intro W base args ds gs before hval0 hW hcnd hsz0 _
  have hsz : (DataW.weightsEach Try.prog (Try.f9.params.toList ++ Rows.fnExactReplaceIntsSpec.plain.varTypes Try.prog) (ds ++ gs)).all (· ≤ reachBytes) = true := hsz0
  have hval : ∀ (j : Nat) t v, Try.f9.params[j]? = some t → args[j]? = some v → Value.okWide Try.prog W .any base t v := hval0
  have hW' := hW
  obtain ⟨p, q, hA0, hV, rfl, hfz, hnd⟩ := hW
  have hA : DataW.TrodAll enc Try.prog W 0 (fun _ => true) true Try.f9.params.toList args.toList ds p := hA0
  rw [Try.params9] at hA hval hsz
  obtain ⟨v0, vs0, d0, ds0, p0, q0, hargs, rfl, rfl, h0, r0⟩ := trodAll_cons hA
  obtain ⟨v1, vs1, d1, ds1, p1, q1, rfl, rfl, rfl, h1, r1⟩ := trodAll_cons r0
  obtain ⟨v2, vs2, d2, ds2, p2, q2, rfl, rfl, rfl, h2, r2⟩ := trodAll_cons r1
  obtain ⟨v3, vs3, d3, ds3, p3, q3, rfl, rfl, rfl, h3, r3⟩ := trodAll_cons r2
  obtain ⟨rfl, rfl, rfl⟩ := trodAll_nil r3
  obtain rfl : args = #[v0, v1, v2, v3] := by cases args; simp_all
  obtain ⟨rfl, rfl⟩ := trodVars_none hV
  have k0 := h0
  have lt0 : ∀ x ∈ p0, x.block < W.heap.size := by obtain ⟨m, hm⟩ := k0; exact DataW.trod_lt m _ _ _ hm
  obtain ⟨A0, n0, c0, xs0, rfl, s0, c0c, _, w0, z0, u0⟩ := arg_ints (hval 0 22 v0 rfl rfl) h0
  obtain ⟨a1, rfl, rfl, rfl, w1⟩ := open_int Try.underlying3 (hval 1 3 v1 rfl rfl) h1
  obtain ⟨a2, rfl, rfl, rfl, w2⟩ := open_int Try.underlying3 (hval 2 3 v2 rfl rfl) h2
  have k3 := h3
  have lt3 : ∀ x ∈ p3, x.block < W.heap.size := by obtain ⟨m, hm⟩ := k3; exact DataW.trod_lt m _ _ _ hm
  obtain ⟨A3, n3, c3, xs3, rfl, s3, c3c, _, w3, z3, u3⟩ := arg_ints (hval 3 22 v3 rfl rfl) h3
  clear hA0 hval0 hsz0
  refine (walk A0 n0 c0 xs0 a1 a2 A3 n3 c3 xs3 W s0 c0c w0 (z0 (weights_arg hsz 0 rfl rfl)) w1 w2 s3 c3c w3 (z3 (weights_arg hsz 3 rfl rfl))).mono fun e W' ⟨he, bel⟩ => ?_
  subst he
  exact ⟨_, rfl, _, _, _, [], _, [], hW', trodAll_mk1 (shut_bool Try.underlying4 _), (trodAll_cons_mk (Below.trod laidOut (by kernel_rfl) (of_decide_eq_true (by kernel_rfl)) k0 bel lt0) (trodAll_cons_mk (shut_int Try.underlying3 w1) (trodAll_cons_mk (shut_int Try.underlying3 w2) (trodAll_cons_mk (Below.trod laidOut (by kernel_rfl) (of_decide_eq_true (by kernel_rfl)) k3 bel lt3) trodAll_mk0)))), rfl, bel.frame _, fun h => by cases h⟩

theorem over : Rows.fnExactReplaceIntsRow.holds Try.pinned (OpenSpec.ofChange Rows.fnExactReplaceIntsSpec) :=
  OpenClaim.holds_of_wide 9 Try.f9 rfl rfl rfl rfl rfl rfl rfl ⟨rfl, rfl, rfl, rfl, rfl⟩ rfl rfl rfl rfl rfl (by kernel_rfl) Try.func9 (by kernel_rfl)
    (of_decide_eq_true (by kernel_rfl)) (by unfold Func.isWrapper; first | (rw [if_pos (by decide +kernel)]; kernel_rfl) | (rw [if_neg (by decide +kernel)]; exact ⟨rfl, rfl⟩))
    (fun os started H enc _ => lifted os started H enc)

theorem proved : Rows.FnExactReplaceIntsSaid := over
end Go.Proofs.Ytbcjcceejddocaa.fnExactReplaceInts
