/-
  slices.Repeat is slices.Concat of as many lists, here of at most ten thousand numbers each; no condition.
-/
import Derived.Test.YtjmceapdokkleaaLift
import Derived.Test.YtjmceapdokkleaaRepeatW
import Derived.Test.YtjmceapdokkleaaConcat
namespace Go.Proofs.Ytjmceapdokkleaa.fnRepeatIsConcat
open Go.ChangeShapes Go.WideShapes Go.ChangeAt Go.RowKit
set_option linter.unusedVariables false

theorem cat_rep (k : Nat) (p : Pt) : cat (List.replicate k p) = rep k p.xs := by simp [cat, rep]
theorem tot_rep (k : Nat) (p : Pt) : tot (List.replicate k p) = p.n * k := by rw [tot, List.map_replicate, List.sum_replicate_nat, Nat.mul_comm]
theorem qv_snoc (k : Nat) (p : Pt) : qv (List.replicate k p) ++ qv [p] = qv (List.replicate (k + 1) p) := by simp [qv, List.replicate_succ']
theorem infoInts : (Try.prog.info? 23).map (fun i => (i.zero, i.size, i.bytes)) = some (some (.slice none 0 0), 1, 24) := by kernel_rfl

set_option maxHeartbeats 2000000 in
set_option maxRecDepth 100000 in
theorem walk (A0 : Option Addr) (n0 c0 : Nat) (xs0 : List Int) (a1 : Int) (w : World) (h0 : Sees w A0 n0 1 (iv xs0)) (hc0 : n0 ≤ c0) (hw0 : ∀ x ∈ xs0, (Lit.int .i64 x).wf = true) (hn0 : n0 ≤ 17592186043904) (hw1 : (Lit.int .i64 a1).wf = true) :
    Calls Try.prog 9 #[.slice A0 n0 c0, .int .i64 a1] w fun e w' => e = .returned (.bool true) ∧ Below w.heap.size w w' := by
  by_cases g1 : a1 < 0
  · go_enter Try.func9, Try.ntmps9
    go_wp2_with fail
    go_ret
    exact ⟨rfl, Below.refl _ _⟩
  by_cases g2 : 100 < a1
  · go_enter Try.func9, Try.ntmps9
    go_wp2_with fail
    go_ret
    exact ⟨rfl, Below.refl _ _⟩
  by_cases g3 : 10000 < n0
  · go_enter Try.func9, Try.ntmps9
    go_wp2_with fail
    go_ret
    exact ⟨rfl, Below.refl _ _⟩
  obtain ⟨k, rfl⟩ : ∃ k : Nat, a1 = (k : Int) := ⟨a1.toNat, by omega⟩
  have hk1 : 0 ≤ k := by omega
  have hk2 : k ≤ 100 := by omega
  clear g1 g2
  obtain ⟨P, hP⟩ : ∃ P, n0 * k = P := ⟨_, rfl⟩
  have hPb : P ≤ 1000000 := by rw [← hP]; exact Nat.le_trans (Nat.mul_le_mul (show n0 ≤ 10000 by omega) hk2) (by omega)
  have hmul : (k : Int) * (n0 : Int) = (P : Int) := by rw [← hP, Int.natCast_mul, Int.mul_comm]
  have e1 : ((P : Int) == (P : Int)) = true := by simp
  have HP := hide hP
  have HM := hide hmul
  clear hP hmul
  obtain ⟨i0, hi0, hz0, hz1, hz2⟩ := info_parts infoInts
  go_enter Try.func9, Try.ntmps9
  go_wp2_with fail
  go_loopw [5, 6] (fun v t wr => ∃ (j : Nat) (B : Option Addr) (d : Nat), j ≤ k ∧ t = .int .i64 j ∧ v = .slice B j d ∧ Row wr w.heap.size wr.heap.size 23 1 B j d (qv (List.replicate j ⟨A0, n0, c0, xs0⟩)) ∧ Below w.heap.size w wr) (fun _ t _ => k - (intOf t).toNat)
  case atStart => exact ⟨0, none, 0, Nat.zero_le _, rfl, rfl, Row.none_ _ _ _ _ _ (Nat.le_refl _), Below.refl _ _⟩
  case round =>
    obtain ⟨j, B, d, hj, rfl, rfl, r, b⟩ := hrel
    by_cases hlt : j < k
    · go_wp2_with (at_builtin; refine halt_here ?_)
      have z1 : Sees (wr.alloc (.cells #[.slice A0 n0 c0] 23)) (some ⟨wr.heap.size, 0, none⟩) 1 1 (qv [⟨A0, n0, c0, xs0⟩]) := (Blk.new wr 23 #[.slice A0 n0 c0]).sees (off := 0) (n := 1) (sz := 1) (pre := []) (xs := qv [⟨A0, n0, c0, xs0⟩]) (post := []) rfl rfl
      refine ⟨wpList_append_sees _ rfl _ _ _ rfl w.heap.size wr.heap.size 23 i0 _ 1 24 Try.underlying22 hi0 hz0 hz1 hz2 rfl (by omega) B j d _ rfl (r.alloc _) _ 1 1 _ rfl z1 (qv_one _) (by unfold maxLen; omega) (by omega) (by have := b.size; simp; omega) ?_⟩
      intro A2 c2 w2 r2 o2 _
      rw [qv_snoc] at r2
      have hb2 : Below w.heap.size w w2 := (b.alloc b.size _).trans (o2.below (Nat.le_refl _) (by have := b.size; simp; omega))
      clear o2 z1 r b
      go_wp2_with fail
      go_roundw
      case rel => exact ⟨j + 1, A2, c2, by omega, by go_num, rfl, r2, hb2⟩
      case measure => simp [intOf]; omega
    · obtain rfl : j = k := by omega
      go_wp2_with fail
      refine (RepeatInts_ok A0 n0 c0 j P xs0 _ (h0.below b) (by omega) (by omega) HP.out (by omega)).mono ?_
      rintro e w1 ⟨Ay, cy, rfl, y, d1⟩
      have b1 : Below w.heap.size w w1 := b.trans (d1.mono b.size)
      have r1 := r.next d1
      have hm := HM.out
      have hwp : IntKind.i64.wrap (P : Int) = (P : Int) := by rw [IntKind.wrap_i64]; omega
      clear d1 r
      go_wp2_with fail
      clear hm hwp
      have z2 : All w1 (List.replicate j ⟨A0, n0, c0, xs0⟩) := by
        intro p hp
        obtain ⟨_, rfl⟩ := List.mem_replicate.1 hp
        exact ⟨h0.below b1, hc0⟩
      refine (ConcatInts_any B j d _ _ r1.sees z2 (by rw [tot_rep, HP.out]; omega) (by omega)).mono ?_
      rintro e w2 ⟨Az, cz, rfl, z, d2⟩
      rw [tot_rep, cat_rep] at z
      rw [tot_rep]
      simp only [HP.out] at z ⊢
      have b2 : Below w.heap.size w w2 := b1.trans (d2.mono b1.size)
      replace y := y.next d2
      clear d2 z2
      go_wp2_with fail
      refine (sameInts_b Ay Az P P cy cz (rep j xs0) (rep j xs0) _ y.sees z.sees (by omega) (by omega)).mono ?_
      rintro e w3 ⟨rfl, d3⟩
      rw [decide_eq_true rfl]
      have b3 : Below w.heap.size w w3 := b2.trans (d3.mono b2.size)
      clear d3
      go_wp2_with fail
      go_ret
      exact ⟨rfl, b3⟩

set_option maxRecDepth 100000 in
theorem lifted (os : Os) (started : os.Started) (H : Type) (enc : TypeId × Value → H) :
    ReturnsInHanded {} Try.checked os 9 .any (Rows.fnRepeatIsConcatSpec.pre6 enc Try.prog Try.f9 Rows.fnRepeatIsConcatRow.domain false) (Rows.fnRepeatIsConcatSpec.post enc Try.prog Try.f9 false true false false) := by
  refine returnsInHanded_of_change_sized (C := Try.checked) ownKnob_none started (by kernel_rfl) Try.func9
    (ChangeSpec.witness6 (enc := enc) (C := Try.checked) false ⟨#[], #[.slice none 0 0, .int .i64 0], []⟩ 8 (by kernel_rfl) (by kernel_rfl) (by kernel_rfl) (by kernel_rfl)) ?_
  intro W base args ds gs before hval0 hW hcnd hsz0 _
  have hsz : (DataW.weightsEach Try.prog (Try.f9.params.toList ++ Rows.fnRepeatIsConcatSpec.plain.varTypes Try.prog) (ds ++ gs)).all (· ≤ reachBytes) = true := hsz0
  have hval : ∀ (j : Nat) t v, Try.f9.params[j]? = some t → args[j]? = some v → Value.okWide Try.prog W .any base t v := hval0
  have hW' := hW
  obtain ⟨p, q, hA0, hV, rfl, hfz, hnd⟩ := hW
  have hA : DataW.TrodAll enc Try.prog W 0 (fun _ => true) true Try.f9.params.toList args.toList ds p := hA0
  rw [Try.params9] at hA hval hsz
  obtain ⟨v0, vs0, d0, ds0, p0, q0, hargs, rfl, rfl, h0, r0⟩ := trodAll_cons hA
  obtain ⟨v1, vs1, d1, ds1, p1, q1, rfl, rfl, rfl, h1, r1⟩ := trodAll_cons r0
  obtain ⟨rfl, rfl, rfl⟩ := trodAll_nil r1
  obtain rfl : args = #[v0, v1] := by cases args; simp_all
  obtain ⟨rfl, rfl⟩ := trodVars_none hV
  have k0 := h0
  have lt0 : ∀ x ∈ p0, x.block < W.heap.size := by obtain ⟨m, hm⟩ := k0; exact DataW.trod_lt m _ _ _ hm
  obtain ⟨A0, n0, c0, xs0, rfl, s0, c0c, _, w0, z0, u0⟩ := arg_ints (hval 0 23 v0 rfl rfl) h0
  obtain ⟨a1, rfl, rfl, rfl, w1⟩ := open_int Try.underlying3 (hval 1 3 v1 rfl rfl) h1
  clear hA0 hval0 hsz0
  refine (walk A0 n0 c0 xs0 a1 W s0 c0c w0 (z0 (weights_arg hsz 0 rfl rfl)) w1).mono fun e W' ⟨he, bel⟩ => ?_
  subst he
  exact ⟨_, rfl, _, _, _, [], _, [], hW', trodAll_mk1 (shut_bool Try.underlying4 _), (trodAll_cons_mk (Below.trod laidOut (by kernel_rfl) (of_decide_eq_true (by kernel_rfl)) k0 bel lt0) (trodAll_cons_mk (shut_int Try.underlying3 w1) trodAll_mk0)), rfl, bel.frame _, fun h => by cases h⟩

theorem over : Rows.fnRepeatIsConcatRow.holds Try.pinned (OpenSpec.ofChange Rows.fnRepeatIsConcatSpec) :=
  OpenClaim.holds_of_wide 9 Try.f9 rfl rfl rfl rfl rfl rfl rfl ⟨rfl, rfl, rfl, rfl, rfl⟩ rfl rfl rfl rfl rfl (by kernel_rfl) Try.func9 (by kernel_rfl)
    (of_decide_eq_true (by kernel_rfl)) (by unfold Func.isWrapper; first | (rw [if_pos (by decide +kernel)]; kernel_rfl) | (rw [if_neg (by decide +kernel)]; exact ⟨rfl, rfl⟩))
    (fun os started H enc _ => lifted os started H enc)

theorem proved : Rows.FnRepeatIsConcatSaid := over
end Go.Proofs.Ytjmceapdokkleaa.fnRepeatIsConcat
