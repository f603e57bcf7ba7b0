/-
  The same parts reversed in the other order bring the list back; no condition.
-/
import Derived.Test.YteijfgijmdighaaLift
import Derived.Test.YteijfgijmdighaaParts
import Derived.Deep.RegionLaw
import Derived.Test.YteijfgijmdighaaLiftPairs
namespace Go.Proofs.Yteijfgijmdighaa.fnReversePartsBack
open Go.ChangeShapes Go.WideShapes Go.ChangeAt Go.RowKit
set_option linter.unusedVariables false

theorem times_perm {xs ys : List Int} (h : xs.Perm ys) (v : Int) : times v xs = times v ys := h.countP_eq _
/-- the last k parts, the last one first -/
theorem back_step (ps : List (Int × Int)) (k : Nat) (p : Int × Int) (h : ps[k]? = some p) : (ps.drop (k + 1)).reverse ++ [p] = (ps.drop k).reverse := by
  obtain ⟨h1, rfl⟩ := List.getElem?_eq_some_iff.1 h
  rw [List.drop_eq_getElem_cons h1, List.reverse_cons]

set_option maxHeartbeats 2000000 in
set_option maxRecDepth 100000 in
theorem walk (A0 : Option Addr) (n0 c0 : Nat) (xs0 : List Int) (A1 : Option Addr) (n1 c1 : Nat) (ps1 : List (Int × Int)) (w : World) (h0 : Sees w A0 n0 1 (iv xs0)) (hc0 : n0 ≤ c0) (hw0 : ∀ x ∈ xs0, (Lit.int .i64 x).wf = true) (hn0 : n0 ≤ 17592186043904) (h1 : Sees w A1 n1 2 (pv ps1)) (hc1 : n1 ≤ c1) (hw1 : ∀ x ∈ ps1, (Lit.int .i64 x.1).wf = true ∧ (Lit.int .i64 x.2).wf = true) (hn1 : n1 ≤ 8796093021952) :
    Calls Try.prog 12 #[.slice A0 n0 c0, .slice A1 n1 c1] w fun e w' => e = .returned (.bool true) ∧ Below w.heap.size w w' := by
  obtain ⟨i0, hi0, hz0, hz1, hz2⟩ := info_parts infoPart
  have HX := hide h0.ilen
  have HP := hide h1.plen
  go_enter Try.func12, Try.ntmps12
  go_wp2_with fail
  go_loopw [5, 6] (fun v i wr => ∃ (k : Nat) (B : Option Addr) (d : Nat), k ≤ n1 ∧ i = .int .i64 ((k : Int) - 1) ∧ v = .slice B (n1 - k) d ∧ Row wr w.heap.size wr.heap.size 48 2 B (n1 - k) d (pv (ps1.drop k).reverse) ∧ Below w.heap.size w wr) (fun _ i _ => (intOf i + 1).toNat)
  case atStart =>
    refine ⟨n1, none, 0, Nat.le_refl _, rfl, by rw [Nat.sub_self], ?_, Below.refl _ _⟩
    rw [Nat.sub_self, List.drop_of_length_le (by rw [HP.out]; exact Nat.le_refl _)]
    exact Row.none_ w _ _ _ _ (Nat.le_refl _)
  case round =>
    obtain ⟨k, B, d, hk, rfl, rfl, hrow, hb⟩ := hrel
    rcases Nat.eq_zero_or_pos k with h00 | hpos
    · subst h00
      have f1 : ¬ (0 : Int) ≤ ((0 : Nat) : Int) - 1 := by omega
      rw [Nat.sub_zero, List.drop_zero] at hrow
      rw [Nat.sub_zero]
      have hbs := hb.size
      go_wp2_with fail
      refine (toParts_any A1 n1 c1 ps1 _ (h1.below hb) (by omega)).mono ?_
      rintro e w2 ⟨A2, c2, rfl, r2, d2⟩
      have b2 : Below w.heap.size w w2 := hb.trans (d2.mono hb.size)
      replace hrow := hrow.next d2
      clear d2
      go_wp2_with fail
      refine (ReverseParts_any A0 A2 n0 n1 c0 c2 xs0 ps1 _ (h0.below b2) r2.sees (by omega) (by omega)).mono ?_
      rintro e w3 ⟨A3, c3, rfl, r3, d3⟩
      have b3 : Below w.heap.size w w3 := b2.trans (d3.mono b2.size)
      replace hrow := hrow.next d3
      clear d3 r2
      go_wp2_with fail
      refine (sameNumbers_any A0 A3 n0 c0 c3 xs0 (revAll ps1 xs0) _ (h0.below b3) r3.sees (by omega) (fun v => (times_perm (revAll_perm ps1 xs0) v).symm)).mono ?_
      rintro e w' ⟨rfl, rfl⟩
      go_wp2_with fail
      refine (ReverseParts_any A3 B n0 n1 c3 d (revAll ps1 xs0) ps1.reverse _ r3.sees hrow.sees (by omega) (by omega)).mono ?_
      rintro e w4 ⟨A4, c4, rfl, r4, d4⟩
      have b4 : Below w.heap.size w w4 := b3.trans (d4.mono b3.size)
      clear d4
      rw [revAll_back] at r4
      go_wp2_with fail
      refine (sameInts_b A4 A0 n0 n0 c4 c0 xs0 xs0 _ r4.sees (h0.below b4) (by omega) (by omega)).mono ?_
      rintro e w5 ⟨rfl, d5⟩
      rw [decide_eq_true rfl]
      have b5 : Below w.heap.size w w5 := b4.trans (d5.mono b4.size)
      clear d5
      go_wp2_with fail
      go_ret
      exact ⟨rfl, b5⟩
    · obtain ⟨j, rfl⟩ : ∃ j, k = j + 1 := ⟨k - 1, by omega⟩
      rw [show ((j + 1 : Nat) : Int) - 1 = (j : Int) by omega]
      obtain ⟨b, off, x, y, rfl, _, HXk, hcx, hcy⟩ := (h1.below hb).pair (show j < n1 by omega)
      have hbs := hb.size
      have f1 : (j : Int) < (n1 : Int) := by omega
      have f2 : 0 ≤ (j : Int) := by omega
      go_wp2_with fail
      have z1 : Sees (wr.alloc (.cells #[.int .i64 x, .int .i64 y] 48)) (some ⟨wr.heap.size, 0, none⟩) 1 2 (pv [(x, y)]) := (Blk.new wr 48 #[.int .i64 x, .int .i64 y]).sees (off := 0) (n := 1) (sz := 2) (pre := []) (xs := pv [(x, y)]) (post := []) rfl rfl
      have r1 := hrow.alloc (.cells #[.int .i64 x, .int .i64 y] 48)
      have b1 : Below w.heap.size w (wr.alloc (.cells #[.int .i64 x, .int .i64 y] 48)) := hb.alloc hb.size _
      have Z1 := hide z1.drew
      have R1 := hide r1.drew
      have B1 : Hid (Below w.heap.size w (wr.alloc (.cells #[.int .i64 x, .int .i64 y] 48)).drew) := b1.drew
      clear z1 r1 b1 hrow hb
      go_region_law ((refine step_append_sees _ rfl (.tmp 15) (.tmp 27) _ rfl w.heap.size wr.heap.size 48 i0 _ 2 16 Try.underlying40 hi0 hz0 hz1 hz2 rfl (by omega) B (n1 - (j + 1)) d _ (by simp [Act.eval]) R1.out _ 1 1 (pv [(x, y)]) (by simp [Act.eval]) Z1.out (pv_one _) (by unfold maxLen; omega) (by omega) B1.out.size ?_); intro A2 c2 w2 hh)
      all_goals
        obtain ⟨hrow2, ho2⟩ := hh
        rw [← pv_append, back_step ps1 j (x, y) HXk.out, show n1 - (j + 1) + 1 = n1 - j by omega] at hrow2
        rw [show n1 - (j + 1) + 1 = n1 - j by omega]
        have hb2 : Below w.heap.size w w2 := B1.out.trans (ho2.below (Nat.le_refl _) B1.out.size)
        clear ho2 Z1 R1 B1
        go_wp2_with fail
        go_roundw
        case rel => exact ⟨j, A2, c2, by omega, rfl, rfl, hrow2, hb2⟩
        case measure => simp [intOf]

set_option maxRecDepth 100000 in
theorem lifted (os : Os) (started : os.Started) (H : Type) (enc : TypeId × Value → H) :
    ReturnsInHanded {} Try.checked os 12 .any (Rows.fnReversePartsBackSpec.pre6 enc Try.prog Try.f12 Rows.fnReversePartsBackRow.domain false) (Rows.fnReversePartsBackSpec.post enc Try.prog Try.f12 false true false false) := by
  refine returnsInHanded_of_change_sized (C := Try.checked) ownKnob_none started (by kernel_rfl) Try.func12
    (ChangeSpec.witness6 (enc := enc) (C := Try.checked) false ⟨#[], #[.slice none 0 0, .slice none 0 0], []⟩ 8 (by kernel_rfl) (by kernel_rfl) (by kernel_rfl) (by kernel_rfl)) ?_
  intro W base args ds gs before hval0 hW hcnd hsz0 _
  have hsz : (DataW.weightsEach Try.prog (Try.f12.params.toList ++ Rows.fnReversePartsBackSpec.plain.varTypes Try.prog) (ds ++ gs)).all (· ≤ reachBytes) = true := hsz0
  have hval : ∀ (j : Nat) t v, Try.f12.params[j]? = some t → args[j]? = some v → Value.okWide Try.prog W .any base t v := hval0
  have hW' := hW
  obtain ⟨p, q, hA0, hV, rfl, hfz, hnd⟩ := hW
  have hA : DataW.TrodAll enc Try.prog W 0 (fun _ => true) true Try.f12.params.toList args.toList ds p := hA0
  rw [Try.params12] at hA hval hsz
  obtain ⟨v0, vs0, d0, ds0, p0, q0, hargs, rfl, rfl, h0, r0⟩ := trodAll_cons hA
  obtain ⟨v1, vs1, d1, ds1, p1, q1, rfl, rfl, rfl, h1, r1⟩ := trodAll_cons r0
  obtain ⟨rfl, rfl, rfl⟩ := trodAll_nil r1
  obtain rfl : args = #[v0, v1] := by cases args; simp_all
  obtain ⟨rfl, rfl⟩ := trodVars_none hV
  have k0 := h0
  have lt0 : ∀ x ∈ p0, x.block < W.heap.size := by obtain ⟨m, hm⟩ := k0; exact DataW.trod_lt m _ _ _ hm
  obtain ⟨A0, n0, c0, xs0, rfl, s0, c0c, _, w0, z0, u0⟩ := arg_ints (hval 0 22 v0 rfl rfl) h0
  have k1 := h1
  have lt1 : ∀ x ∈ p1, x.block < W.heap.size := by obtain ⟨m, hm⟩ := k1; exact DataW.trod_lt m _ _ _ hm
  obtain ⟨A1, n1, c1, ps1, rfl, s1, c1c, _, w1, z1, u1⟩ := arg_Cut (hval 1 45 v1 rfl rfl) h1
  clear hA0 hval0 hsz0
  refine (walk A0 n0 c0 xs0 A1 n1 c1 ps1 W s0 c0c w0 (z0 (weights_arg hsz 0 rfl rfl)) s1 c1c w1 (z1 (weights_arg hsz 1 rfl rfl))).mono fun e W' ⟨he, bel⟩ => ?_
  subst he
  exact ⟨_, rfl, _, _, _, [], _, [], hW', trodAll_mk1 (shut_bool Try.underlying4 _), (trodAll_cons_mk (Below.trod laidOut (by kernel_rfl) (of_decide_eq_true (by kernel_rfl)) k0 bel lt0) (trodAll_cons_mk (Below.trod laidOut (by kernel_rfl) (of_decide_eq_true (by kernel_rfl)) k1 bel lt1) trodAll_mk0)), rfl, bel.frame _, fun h => by cases h⟩

theorem over : Rows.fnReversePartsBackRow.holds Try.pinned (OpenSpec.ofChange Rows.fnReversePartsBackSpec) :=
  OpenClaim.holds_of_wide 12 Try.f12 rfl rfl rfl rfl rfl rfl rfl ⟨rfl, rfl, rfl, rfl, rfl⟩ rfl rfl rfl rfl rfl (by kernel_rfl) Try.func12 (by kernel_rfl)
    (of_decide_eq_true (by kernel_rfl)) (by unfold Func.isWrapper; first | (rw [if_pos (by decide +kernel)]; kernel_rfl) | (rw [if_neg (by decide +kernel)]; exact ⟨rfl, rfl⟩))
    (fun os started H enc _ => lifted os started H enc)

theorem proved : Rows.FnReversePartsBackSaid := over
end Go.Proofs.Yteijfgijmdighaa.fnReversePartsBack
