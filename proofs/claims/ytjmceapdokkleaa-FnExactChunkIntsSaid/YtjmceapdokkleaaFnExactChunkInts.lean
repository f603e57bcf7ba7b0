/-
  ChunkInts, for every list and number, returns what the reference returns, leaves its argument as it was, and returns memory of its own; no condition.
-/
import Derived.Test.YtjmceapdokkleaaLift
import Derived.Test.YtjmceapdokkleaaChunkAll
namespace Go.Proofs.Ytjmceapdokkleaa.fnExactChunkInts
open Go.ChangeShapes Go.WideShapes Go.ChangeAt Go.RowKit
set_option linter.unusedVariables false

theorem le_tot {ps : List Pt} {p : Pt} (h : p ∈ ps) : p.n ≤ tot ps := by
  obtain ⟨k, hk⟩ := List.mem_iff_getElem?.1 h
  have := tot_le ps k p hk
  omega

set_option maxHeartbeats 4000000 in
set_option maxRecDepth 100000 in
theorem walk (A0 : Option Addr) (n0 c0 : Nat) (xs0 : List Int) (a1 : Int) (w : World) (h0 : Sees w A0 n0 1 (iv xs0)) (hc0 : n0 ≤ c0) (hw0 : ∀ x ∈ xs0, (Lit.int .i64 x).wf = true) (hn0 : n0 ≤ 17592186043904) (hw1 : (Lit.int .i64 a1).wf = true) :
    Calls Try.prog 5 #[.slice A0 n0 c0, .int .i64 a1] w fun e w' => e = .returned (.bool true) ∧ Below w.heap.size w w' := by
  by_cases hbig : 1048576 < n0
  · go_enter Try.func5, Try.ntmps5
    go_wp2_with fail
    go_ret
    exact ⟨rfl, Below.refl _ _⟩
  · go_enter Try.func5, Try.ntmps5
    go_wp2_with fail
    have hbd := bounds_i64 hw1
    have b0 : Below w.heap.size w w := Below.refl _ _
    obtain ⟨K, hK⟩ : ∃ K, (cks a1 xs0).length = K := ⟨_, rfl⟩
    obtain ⟨ok, hok⟩ : ∃ ok, decide (1 ≤ a1) = ok := ⟨_, rfl⟩
    have HK := hide hK
    have HOK := hide hok
    have e0 : (ok != ok) = false := by cases ok <;> rfl
    clear hK hok
    refine (toIntS_any A0 n0 c0 xs0 _ (h0.below b0) (by omega)).mono ?_
    rintro e w1 ⟨Aa, ca, rfl, a, d1⟩
    have b1 : Below w.heap.size w w1 := b0.trans (d1.mono b0.size)
    have s1 := d1.size
    clear d1
    go_wp2_with fail
    refine (specChunk_all Aa n0 ca a1 xs0 _ a.sees (by omega) (by omega)).mono ?_
    rintro e w2 ⟨Av, cv, lv, rfl, mv, Lv, d2⟩
    have b2 : Below w.heap.size w w2 := b1.trans (d2.mono b1.size)
    have s2 := d2.size
    replace a := a.next d2
    clear d2
    rw [HK.out, HOK.out]
    rw [HK.out] at mv
    have hKn : K ≤ n0 := by have h1 := Lv.out.2.2; rw [HK.out] at h1; exact h1
    clear a
    go_wp2_with fail
    refine (toIntS_any A0 n0 c0 xs0 _ (h0.below b2) (by omega)).mono ?_
    rintro e w3 ⟨Ax, cx, rfl, x, d3⟩
    have b3 : Below w.heap.size w w3 := b2.trans (d3.mono b2.size)
    have s3 := d3.size
    replace mv := mv.next d3
    clear d3
    go_wp2_with fail
    refine (ChunkInts_all Ax n0 cx a1 xs0 _ x.sees x.cap.1 (by omega) (by omega)).mono ?_
    rintro e w4 ⟨Ag, cg, lg, rfl, mg, Lg, d4⟩
    have b4 : Below w.heap.size w w4 := b3.trans (d4.mono b3.size)
    have s4 := d4.size
    replace mv := mv.next d4
    replace x := x.next d4
    clear d4
    rw [HK.out, HOK.out]
    rw [HK.out] at mg
    go_wp2_with fail
    refine (eqIntSS_any Ag Av K K cg cv lg lv _ mg.sees mg.all mv.sees mv.all (fun p hp => by have h1 := le_tot hp; have h2 := Lg.out.2.1; omega) (fun p hp => by have h1 := le_tot hp; have h2 := Lv.out.2.1; omega) (by omega) (by omega) (Lg.out.1.trans Lv.out.1.symm)).mono ?_
    rintro e w5 ⟨rfl, d5⟩
    have b5 : Below w.heap.size w w5 := b4.trans (d5.mono b4.size)
    have s5 := d5.size
    replace mv := mv.next d5
    replace x := x.next d5
    replace mg := mg.next d5
    clear d5
    go_wp2_with fail
    refine (toIntS_any A0 n0 c0 xs0 _ (h0.below b5) (by omega)).mono ?_
    rintro e w6 ⟨Ay, cy, rfl, y, d6⟩
    have b6 : Below w.heap.size w w6 := b5.trans (d6.mono b5.size)
    have s6 := d6.size
    replace mv := mv.next d6
    replace x := x.next d6
    replace mg := mg.next d6
    clear d6
    go_wp2_with fail
    refine (eqIntS_b Ax Ay n0 n0 cx cy xs0 xs0 _ x.sees y.sees (by omega) (by omega)).mono ?_
    rintro e w7 ⟨rfl, d7⟩
    have b7 : Below w.heap.size w w7 := b6.trans (d7.mono b6.size)
    have s7 := d7.size
    replace mv := mv.next d7
    replace x := x.next d7
    replace mg := mg.next d7
    replace y := y.next d7
    clear d7
    rw [decide_eq_true rfl]
    go_wp2_with fail
    refine (markIntS_any Ax _ _ n0 cx 1 xs0 _ x (by omega) (by omega) (by omega)).mono ?_
    rintro e w8 ⟨rfl, _, o8⟩
    have b8 : Below w.heap.size w w8 := b7.trans (o8.below (by omega) b7.size)
    replace mv := mv.only o8 (.inl (Nat.le_refl _))
    replace mg := mg.only o8 (.inr (Nat.le_refl _))
    clear o8
    have t1 : ¬ (1 + (n0 : Int) < 0) := by omega
    clear x y
    go_wp2_with fail
    refine (eqIntSS_any Ag Av K K cg cv lg lv _ mg.sees mg.all mv.sees mv.all (fun p hp => by have h1 := le_tot hp; have h2 := Lg.out.2.1; omega) (fun p hp => by have h1 := le_tot hp; have h2 := Lv.out.2.1; omega) (by omega) (by omega) (Lg.out.1.trans Lv.out.1.symm)).mono ?_
    rintro e w9 ⟨rfl, d9⟩
    have b9 : Below w.heap.size w w9 := b8.trans (d9.mono b8.size)
    have s9 := d9.size
    replace mv := mv.next d9
    replace mg := mg.next d9
    clear d9
    go_wp2_with fail
    refine (markIntSS_any Ag _ _ K cg lg _ mg (by omega) (by have := Lg.out.2.1; omega)).mono ?_
    rintro e w10 ⟨rfl, mk, o10⟩
    have b10 : Below w.heap.size w w10 := b9.trans (o10.below (by omega) b9.size)
    replace mv := mv.only o10 (.inl (by omega))
    clear o10
    clear mg
    obtain ⟨T, hT⟩ : ∃ T, tot lg = T := ⟨_, rfl⟩
    have hTb : T ≤ n0 := by have := Lg.out.2.1; omega
    have HT := hide hT
    rw [hT]
    clear hT
    go_wp2_with fail
    refine (heldIntSS_any Ag K cg lg _ mk.sees mk.all (by omega) (by rw [HT.out]; omega)).mono ?_
    rintro e w' ⟨rfl, rfl⟩
    rw [HT.out]
    have t2 : (1 + (T : Int) != 1 + (T : Int)) = false := by simp
    go_wp2_with fail
    refine (toIntS_any A0 n0 c0 xs0 _ (h0.below b10) (by omega)).mono ?_
    rintro e w11 ⟨Az, cz, rfl, z, d11⟩
    have b11 : Below w.heap.size w w11 := b10.trans (d11.mono b10.size)
    have s11 := d11.size
    replace mv := mv.next d11
    replace mk := mk.next d11
    clear d11
    go_wp2_with fail
    refine (ChunkInts_all Az n0 cz a1 xs0 _ z.sees z.cap.1 (by omega) (by omega)).mono ?_
    rintro e w12 ⟨Ah, ch, lh, rfl, mh, Lh, d12⟩
    have b12 : Below w.heap.size w w12 := b11.trans (d12.mono b11.size)
    have s12 := d12.size
    replace mv := mv.next d12
    replace mk := mk.next d12
    replace z := z.next d12
    clear d12
    rw [HK.out, HOK.out]
    rw [HK.out] at mh
    go_wp2_with fail
    refine (eqIntSS_any Ah Av K K ch cv lh lv _ mh.sees mh.all mv.sees mv.all (fun p hp => by have h1 := le_tot hp; have h2 := Lh.out.2.1; omega) (fun p hp => by have h1 := le_tot hp; have h2 := Lv.out.2.1; omega) (by omega) (by omega) (Lh.out.1.trans Lv.out.1.symm)).mono ?_
    rintro e w13 ⟨rfl, d13⟩
    have b13 : Below w.heap.size w w13 := b12.trans (d13.mono b12.size)
    have s13 := d13.size
    replace mv := mv.next d13
    replace mk := mk.next d13
    replace z := z.next d13
    replace mh := mh.next d13
    clear d13
    go_wp2_with fail
    refine (heldIntSS_any Ag K cg lg _ mk.sees mk.all (by omega) (by rw [HT.out]; omega)).mono ?_
    rintro e w' ⟨rfl, rfl⟩
    rw [HT.out]
    go_wp2_with fail
    go_ret
    exact ⟨rfl, b13⟩

set_option maxRecDepth 100000 in
theorem lifted (os : Os) (started : os.Started) (H : Type) (enc : TypeId × Value → H) :
    ReturnsInHanded {} Try.checked os 5 .any (Rows.fnExactChunkIntsSpec.pre6 enc Try.prog Try.f5 Rows.fnExactChunkIntsRow.domain false) (Rows.fnExactChunkIntsSpec.post enc Try.prog Try.f5 false true false false) := by
  refine returnsInHanded_of_change_sized (C := Try.checked) ownKnob_none started (by kernel_rfl) Try.func5
    (ChangeSpec.witness6 (enc := enc) (C := Try.checked) false ⟨#[], #[.slice none 0 0, .int .i64 0], []⟩ 8 (by kernel_rfl) (by kernel_rfl) (by kernel_rfl) (by kernel_rfl)) ?_
  intro W base args ds gs before hval0 hW hcnd hsz0 _
  have hsz : (DataW.weightsEach Try.prog (Try.f5.params.toList ++ Rows.fnExactChunkIntsSpec.plain.varTypes Try.prog) (ds ++ gs)).all (· ≤ reachBytes) = true := hsz0
  have hval : ∀ (j : Nat) t v, Try.f5.params[j]? = some t → args[j]? = some v → Value.okWide Try.prog W .any base t v := hval0
  have hW' := hW
  obtain ⟨p, q, hA0, hV, rfl, hfz, hnd⟩ := hW
  have hA : DataW.TrodAll enc Try.prog W 0 (fun _ => true) true Try.f5.params.toList args.toList ds p := hA0
  rw [Try.params5] at hA hval hsz
  obtain ⟨v0, vs0, d0, ds0, p0, q0, hargs, rfl, rfl, h0, r0⟩ := trodAll_cons hA
  obtain ⟨v1, vs1, d1, ds1, p1, q1, rfl, rfl, rfl, h1, r1⟩ := trodAll_cons r0
  obtain ⟨rfl, rfl, rfl⟩ := trodAll_nil r1
  obtain rfl : args = #[v0, v1] := by cases args; simp_all
  obtain ⟨rfl, rfl⟩ := trodVars_none hV
  have k0 := h0
  have lt0 : ∀ x ∈ p0, x.block < W.heap.size := by obtain ⟨m, hm⟩ := k0; exact DataW.trod_lt m _ _ _ hm
  obtain ⟨A0, n0, c0, xs0, rfl, s0, c0c, _, w0, z0, u0⟩ := arg_ints (hval 0 23 v0 rfl rfl) h0
  obtain ⟨a1, rfl, rfl, rfl, w1⟩ := open_int Try.underlying3 (hval 1 3 v1 rfl rfl) h1
  clear hA0 hval0 hsz0
  refine (walk A0 n0 c0 xs0 a1 W s0 c0c w0 (z0 (weights_arg hsz 0 rfl rfl)) w1).mono fun e W' ⟨he, bel⟩ => ?_
  subst he
  exact ⟨_, rfl, _, _, _, [], _, [], hW', trodAll_mk1 (shut_bool Try.underlying4 _), (trodAll_cons_mk (Below.trod laidOut (by kernel_rfl) (of_decide_eq_true (by kernel_rfl)) k0 bel lt0) (trodAll_cons_mk (shut_int Try.underlying3 w1) trodAll_mk0)), rfl, bel.frame _, fun h => by cases h⟩

theorem over : Rows.fnExactChunkIntsRow.holds Try.pinned (OpenSpec.ofChange Rows.fnExactChunkIntsSpec) :=
  OpenClaim.holds_of_wide 5 Try.f5 rfl rfl rfl rfl rfl rfl rfl ⟨rfl, rfl, rfl, rfl, rfl⟩ rfl rfl rfl rfl rfl (by kernel_rfl) Try.func5 (by kernel_rfl)
    (of_decide_eq_true (by kernel_rfl)) (by unfold Func.isWrapper; first | (rw [if_pos (by decide +kernel)]; kernel_rfl) | (rw [if_neg (by decide +kernel)]; exact ⟨rfl, rfl⟩))
    (fun os started H enc _ => lifted os started H enc)

theorem proved : Rows.FnExactChunkIntsSaid := over
end Go.Proofs.Ytjmceapdokkleaa.fnExactChunkInts
