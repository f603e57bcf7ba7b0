/-
  The thin package leaves lists as they were that are inserted into, deleted from, replaced, joined and cut; for arguments of bulk at most 1048576.
-/
import Derived.Test.YtnbgopagjahkpaaLift
import Derived.Test.YtnbgopagjahkpaaEither
import Derived.Test.YtnbgopagjahkpaaChunkW
import Derived.Test.YtnbgopagjahkpaaConcat
namespace Go.Proofs.Ytnbgopagjahkpaa.fnEditsKeepArgument
open Go.ChangeShapes Go.WideShapes Go.ChangeAt Go.RowKit
set_option linter.unusedVariables false

/-- new memory, all zeros -/
def zk (k : Nat) : Array Value := madeCells (Value.int .i64 0).cells ((k + 9) * 1)
theorem zk_is (k : Nat) : (zk k).toList = iv (List.replicate (k + 9) 0) := made_zero (k + 9)

set_option maxHeartbeats 16000000 in
set_option maxRecDepth 100000 in
theorem walk (A0 : Option Addr) (n0 c0 : Nat) (xs0 : List Int) (a1 : Int) (a2 : Int) (A3 : Option Addr) (n3 c3 : Nat) (xs3 : List Int) (w : World) (h0 : Sees w A0 n0 1 (iv xs0)) (hc0 : n0 ≤ c0) (hw0 : ∀ x ∈ xs0, (Lit.int .i64 x).wf = true) (hw1 : (Lit.int .i64 a1).wf = true) (hw2 : (Lit.int .i64 a2).wf = true) (h3 : Sees w A3 n3 1 (iv xs3)) (hc3 : n3 ≤ c3) (hw3 : ∀ x ∈ xs3, (Lit.int .i64 x).wf = true) (hup : n0 + n3 ≤ 1048576) :
    Calls Try.prog 3 #[.slice A0 n0 c0, .int .i64 a1, .int .i64 a2, .slice A3 n3 c3] w fun e w' => e = .returned (.bool true) ∧ Below w.heap.size w w' := by
  obtain ⟨i0, hi0, hz0, hz1, hz2⟩ := info_parts intInfo
  have HX := hide h0.ilen
  have HV := hide h3.ilen
  have mk : ∀ (k : Nat) (W : World), k ≤ 1048576 → (Instr.makeSlice 22 (.int .i64 ((k : Int) + 9)) (.int .i64 ((k : Int) + 9))).run Try.prog W = .ok (.slice (some ⟨W.heap.size, 0, none⟩) (k + 9) (k + 9)) (W.alloc (.cells (zk k) 3)) := fun k W hk => by
    have h1 := run_make (P := Try.prog) W 22 3 i0 _ Try.underlying22 hi0 hz0 .i64 .i64 ((k : Int) + 9) ((k : Int) + 9) (by omega) (by omega) (by rw [hz2]; omega) (by omega)
    rw [h1, show ((k : Int) + 9).toNat = k + 9 by omega, hz1]
    rfl
  have m0 := fun W => mk n0 W (by omega)
  have m3 := fun W => mk n3 W (by omega)
  clear mk
  go_enter Try.func3, Try.ntmps3
  go_wp2_with fail
  go_region
  all_goals clear m0 m3
  · have kr : Blk (((w.alloc (.cells (zk n0) 3)).alloc (.cells (zk n3) 3)).drew) w.heap.size 3 (iv (List.replicate (n0 + 9) 0)) := by
      rw [← zk_is]
      exact ((Blk.new w 3 (zk n0)).alloc _).drew
    have ks : Blk (((w.alloc (.cells (zk n0) 3)).alloc (.cells (zk n3) 3)).drew) (w.heap.size + 1) 3 (iv (List.replicate (n3 + 9) 0)) := by
      rw [← zk_is]
      have := (Blk.new (w.alloc (.cells (zk n0) 3)) 3 (zk n3)).drew
      simpa using this
    have b0 : Below w.heap.size w (((w.alloc (.cells (zk n0) 3)).alloc (.cells (zk n3) 3)).drew) := (((Below.refl _ _).alloc (Nat.le_refl _) _).alloc (by simp) _).drew
    generalize (((w.alloc (.cells (zk n0) 3)).alloc (.cells (zk n3) 3)).drew) = W at kr ks b0 ⊢
    obtain ⟨g2, hgb⟩ : ∃ g, w.heap.size + 1 = g := ⟨_, rfl⟩
    rw [hgb] at ks ⊢
    obtain ⟨g1, hga⟩ : ∃ g, w.heap.size = g := ⟨_, rfl⟩
    rw [hga] at kr ⊢
    have hne : g1 ≠ g2 := by omega
    have l1 : w.heap.size ≤ g1 := by omega
    have l2 : w.heap.size ≤ g2 := by omega
    clear hga hgb
    go_wp2_with (with_reducible refine halt_copy ?_)
    refine ⟨wpList_copy_blk W rfl _ _ _ rfl 3 i0 1 Try.underlying22 hi0 hz1 g1 0 (n0 + 9) (n0 + 9) _ kr (by rw [iv_len, List.length_replicate]; omega) rfl A0 n0 c0 _ rfl (h0.below b0) (iv_one _) ?_⟩
    intro w1 krq o1 z1
    have b1 : Below w.heap.size w w1 := b0.trans (o1.below l1 b0.size)
    replace ks := ks.only o1 (by omega)
    replace kr : Blk w1 g1 3 (iv xs0 ++ iv (List.replicate 9 0)) := by
      rw [show min n0 (n0 + 9) = n0 by omega, Nat.mul_one, List.take_zero, List.nil_append, List.take_of_length_le (by rw [iv_len, HX.out]; exact Nat.le_refl _), Nat.zero_add, ← iv_drop, List.drop_replicate, show n0 + 9 - n0 = 9 by omega] at krq
      exact krq
    clear o1 z1 krq
    go_wp2_with (with_reducible refine halt_copy ?_)
    refine ⟨wpList_copy_blk w1 rfl _ _ _ rfl 3 i0 1 Try.underlying22 hi0 hz1 g2 0 (n3 + 9) (n3 + 9) _ ks (by rw [iv_len, List.length_replicate]; omega) rfl A3 n3 c3 _ rfl (h3.below b1) (iv_one _) ?_⟩
    intro w2 ksq o1 z1
    have b2 : Below w.heap.size w w2 := b1.trans (o1.below l2 b1.size)
    replace kr := kr.only o1 (by omega)
    replace ks : Blk w2 g2 3 (iv xs3 ++ iv (List.replicate 9 0)) := by
      rw [show min n3 (n3 + 9) = n3 by omega, Nat.mul_one, List.take_zero, List.nil_append, List.take_of_length_le (by rw [iv_len, HV.out]; exact Nat.le_refl _), Nat.zero_add, ← iv_drop, List.drop_replicate, show n3 + 9 - n3 = 9 by omega] at ksq
      exact ksq
    clear o1 z1 ksq
    have q1 := fun W => run_slice_hi (P := Try.prog) W 22 3 i0 Try.underlying22 hi0 (some ⟨g1, 0, none⟩) (n0 + 9) (n0 + 9) .i64 n0 (by omega)
    have q2 := fun W => run_slice_hi (P := Try.prog) W 22 3 i0 Try.underlying22 hi0 (some ⟨g2, 0, none⟩) (n3 + 9) (n3 + 9) .i64 n3 (by omega)
    go_wp2_with fail
    go_quiet (fail)
    have b3 : Below w.heap.size w (w2.drewN nq) := below_drewN b2 nq
    replace kr := kr.drewN nq
    replace ks := ks.drewN nq
    clear q1 q2 b0 b1 b2
    generalize w2.drewN nq = w3 at b3 kr ks ⊢
    go_wp2_with fail
    refine (InsertInts_either (some ⟨g1, 0, none⟩) n0 (n0 + 9) a1 xs0 (some ⟨g2, 0, none⟩) n3 (n3 + 9) xs3 _ (kr.sees (off := 0) (n := n0) (sz := 1) (pre := []) rfl ((iv_len _).trans (HX.out.trans (Nat.mul_one _).symm))) (ks.sees (off := 0) (n := n3) (sz := 1) (pre := []) rfl ((iv_len _).trans (HV.out.trans (Nat.mul_one _).symm))) (by omega)).mono ?_
    rintro e w4 ⟨Aa, ka, ca, oka, rfl, Ha, d4⟩
    have b4 : Below w.heap.size w w4 := b3.trans (d4.mono b3.size)
    replace kr := kr.below d4 kr.lt
    replace ks := ks.below d4 ks.lt
    clear d4
    go_wp2_with fail
    refine (DeleteInts_either (some ⟨g1, 0, none⟩) n0 (n0 + 9) a1 a2 xs0 _ (kr.sees (off := 0) (n := n0) (sz := 1) (pre := []) rfl ((iv_len _).trans (HX.out.trans (Nat.mul_one _).symm))) (by omega)).mono ?_
    rintro e w5 ⟨Ab, kb, cb, okb, rfl, Hb, d5⟩
    have b5 : Below w.heap.size w w5 := b4.trans (d5.mono b4.size)
    replace kr := kr.below d5 kr.lt
    replace ks := ks.below d5 ks.lt
    clear d5
    go_wp2_with fail
    refine (ReplaceInts_either (some ⟨g1, 0, none⟩) n0 (n0 + 9) a1 a2 xs0 (some ⟨g2, 0, none⟩) n3 (n3 + 9) xs3 _ (kr.sees (off := 0) (n := n0) (sz := 1) (pre := []) rfl ((iv_len _).trans (HX.out.trans (Nat.mul_one _).symm))) (ks.sees (off := 0) (n := n3) (sz := 1) (pre := []) rfl ((iv_len _).trans (HV.out.trans (Nat.mul_one _).symm))) (by omega)).mono ?_
    rintro e w6 ⟨Ac, kc, cc, okc, rfl, Hc, d6⟩
    have b6 : Below w.heap.size w w6 := b5.trans (d6.mono b5.size)
    replace kr := kr.below d6 kr.lt
    replace ks := ks.below d6 ks.lt
    clear d6
    go_wp2_with fail
    have z1 : Sees (w6.alloc (.cells #[.slice (some ⟨g1, 0, none⟩) n0 (n0 + 9), .slice (some ⟨g2, 0, none⟩) n3 (n3 + 9)] 22)) (some ⟨w6.heap.size, 0, none⟩) 2 1 (qv [⟨(some ⟨g1, 0, none⟩), n0, n0 + 9, xs0⟩, ⟨(some ⟨g2, 0, none⟩), n3, n3 + 9, xs3⟩]) := (Blk.new w6 22 #[.slice (some ⟨g1, 0, none⟩) n0 (n0 + 9), .slice (some ⟨g2, 0, none⟩) n3 (n3 + 9)]).sees (off := 0) (n := 2) (sz := 1) (pre := []) (xs := qv [⟨(some ⟨g1, 0, none⟩), n0, n0 + 9, xs0⟩, ⟨(some ⟨g2, 0, none⟩), n3, n3 + 9, xs3⟩]) (post := []) rfl rfl
    have bA : Below w.heap.size w (w6.alloc (.cells #[.slice (some ⟨g1, 0, none⟩) n0 (n0 + 9), .slice (some ⟨g2, 0, none⟩) n3 (n3 + 9)] 22)) := b6.alloc b6.size _
    replace kr := kr.alloc (.cells #[.slice (some ⟨g1, 0, none⟩) n0 (n0 + 9), .slice (some ⟨g2, 0, none⟩) n3 (n3 + 9)] 22)
    replace ks := ks.alloc (.cells #[.slice (some ⟨g1, 0, none⟩) n0 (n0 + 9), .slice (some ⟨g2, 0, none⟩) n3 (n3 + 9)] 22)
    have z2 : All (w6.alloc (.cells #[.slice (some ⟨g1, 0, none⟩) n0 (n0 + 9), .slice (some ⟨g2, 0, none⟩) n3 (n3 + 9)] 22)) [⟨(some ⟨g1, 0, none⟩), n0, n0 + 9, xs0⟩, ⟨(some ⟨g2, 0, none⟩), n3, n3 + 9, xs3⟩] := by
      intro p hp
      simp only [List.mem_cons, List.not_mem_nil, or_false] at hp
      rcases hp with rfl | rfl
      · exact ⟨(kr.sees (off := 0) (n := n0) (sz := 1) (pre := []) rfl ((iv_len _).trans (HX.out.trans (Nat.mul_one _).symm))), Nat.le_add_right _ _⟩
      · exact ⟨(ks.sees (off := 0) (n := n3) (sz := 1) (pre := []) rfl ((iv_len _).trans (HV.out.trans (Nat.mul_one _).symm))), Nat.le_add_right _ _⟩
    have E1 : Hid (tot [⟨(some ⟨g1, 0, none⟩), n0, n0 + 9, xs0⟩, ⟨(some ⟨g2, 0, none⟩), n3, n3 + 9, xs3⟩] = n0 + n3) := by show _ = _; simp [tot]
    refine (ConcatInts_any _ 2 2 _ _ z1 z2 (by rw [E1.out]; omega) (by omega)).mono ?_
    rintro e w7 ⟨Ad, cd, rfl, rd, d7⟩
    have b7 : Below w.heap.size w w7 := bA.trans (d7.mono bA.size)
    replace kr := kr.below d7 kr.lt
    replace ks := ks.below d7 ks.lt
    rw [E1.out]
    clear d7 z1 z2 rd bA E1
    go_wp2_with fail
    refine (ChunkInts_ok (some ⟨g1, 0, none⟩) n0 (n0 + 9) 2 xs0 _ (kr.sees (off := 0) (n := n0) (sz := 1) (pre := []) rfl ((iv_len _).trans (HX.out.trans (Nat.mul_one _).symm))) (by omega) (by omega) (by omega) (by omega)).mono ?_
    rintro e w8 ⟨Ae, ce, k, qs, rfl, me, hq, d8⟩
    have b8 : Below w.heap.size w w8 := b7.trans (d8.mono b7.size)
    replace kr := kr.below d8 kr.lt
    replace ks := ks.below d8 ks.lt
    have hkk : k = (n0 + 1) / 2 := by
      have h1 := hq.2.1
      rcases Nat.eq_zero_or_pos k with h | h
      · omega
      · have h2 := hq.2.2 (k - 1) (by omega)
        omega
    have HKK := hide hkk
    clear d8 me hq hkk
    have e1 : (((n0 + n3 : Nat) : Int) != (n0 : Int) + (n3 : Int)) = false := by simp
    go_wp2_with fail
    refine (sameInts_b A0 (some ⟨g1, 0, none⟩) n0 n0 c0 (n0 + 9) xs0 xs0 _ (h0.below b8) (kr.sees (off := 0) (n := n0) (sz := 1) (pre := []) rfl ((iv_len _).trans (HX.out.trans (Nat.mul_one _).symm))) (by omega) (by omega)).mono ?_
    rintro e w9 ⟨rfl, d9⟩
    have b9 : Below w.heap.size w w9 := b8.trans (d9.mono b8.size)
    replace kr := kr.below d9 kr.lt
    replace ks := ks.below d9 ks.lt
    rw [decide_eq_true rfl]
    clear d9
    go_wp2_with fail
    refine (sameInts_b A3 (some ⟨g2, 0, none⟩) n3 n3 c3 (n3 + 9) xs3 xs3 _ (h3.below b9) (ks.sees (off := 0) (n := n3) (sz := 1) (pre := []) rfl ((iv_len _).trans (HV.out.trans (Nat.mul_one _).symm))) (by omega) (by omega)).mono ?_
    rintro e w10 ⟨rfl, d10⟩
    have b10 : Below w.heap.size w w10 := b9.trans (d10.mono b9.size)
    replace kr := kr.below d10 kr.lt
    replace ks := ks.below d10 ks.lt
    rw [decide_eq_true rfl]
    clear d10
    go_wp2_with fail
    have q1 : ∀ W, (Instr.slice 22 (.slice (some ⟨g1, 0, none⟩) (n0 + 9) (n0 + 9)) (some (.int .i64 (n0 : Int))) none none).run Try.prog W = .ok (.slice (some ⟨g1, n0, none⟩) 9 9) W := fun W => by
      rw [run_slice_lo (P := Try.prog) W 22 3 i0 1 Try.underlying22 hi0 hz1 (some ⟨g1, 0, none⟩) (n0 + 9) (n0 + 9) .i64 n0 (by omega), cutA_some _ _ _ _ _ (by omega), Nat.zero_add, Nat.mul_one, Nat.add_sub_cancel_left]
    have q2 : ∀ W, (Instr.slice 22 (.slice (some ⟨g2, 0, none⟩) (n3 + 9) (n3 + 9)) (some (.int .i64 (n3 : Int))) none none).run Try.prog W = .ok (.slice (some ⟨g2, n3, none⟩) 9 9) W := fun W => by
      rw [run_slice_lo (P := Try.prog) W 22 3 i0 1 Try.underlying22 hi0 hz1 (some ⟨g2, 0, none⟩) (n3 + 9) (n3 + 9) .i64 n3 (by omega), cutA_some _ _ _ _ _ (by omega), Nat.zero_add, Nat.mul_one, Nat.add_sub_cancel_left]
    have v1 : Sees w10.drew (some ⟨g1, n0, none⟩) 9 1 (iv (List.replicate 9 0)) := Blk.sees (pre := iv xs0) (post := []) (by rw [List.append_nil]; exact kr.drew) (by rw [iv_len, HX.out]) (by rw [iv_len]; simp)
    have v2 : Sees w10.drew (some ⟨g2, n3, none⟩) 9 1 (iv (List.replicate 9 0)) := Blk.sees (pre := iv xs3) (post := []) (by rw [List.append_nil]; exact ks.drew) (by rw [iv_len, HV.out]) (by rw [iv_len]; simp)
    have V1 := hide v1
    have V2 := hide v2
    have B10 := hide b10.drew
    clear v1 v2 kr ks b10 b9 b8 b7 b6 b5 b4 b3 e1
    go_region_with (go_at_call 10; refine (joined_any _ _ 9 9 9 9 _ _ _ V1.out V2.out (by omega)).mono ?_; rintro e w11 ⟨Aj, cj, rfl, rj, d11⟩; have b11 : Below w.heap.size w w11 := B10.out.trans (d11.mono B10.out.size); rw [List.replicate_append_replicate] at rj; clear d11)
    all_goals
      clear q1 q2
      try go_simp
      go_wp2_with fail
      go_loop [111] (fun t => ∃ j : Nat, j ≤ 18 ∧ t = .int .i64 j) (fun t => 18 - (intOf t).toNat)
      case atStart => exact ⟨0, Nat.zero_le _, rfl⟩
      case round =>
        obtain ⟨j, hj, rfl⟩ := hrel
        by_cases hlt : j < 18
        · obtain ⟨ad, x, rfl, _, HXm, hcx⟩ := rj.sees.int hlt
          obtain rfl : x = 0 := by
            have t1 := HXm.out
            rw [List.getElem?_replicate, if_pos hlt] at t1
            exact (Option.some.inj t1).symm
          have e4 : ((0 : Int) != 0) = false := by simp
          go_wp2_with fail
          go_round
          case rel => exact ⟨j + 1, by omega, by go_num⟩
          case measure => simp [intOf]; omega
        · have hb := Hb.out
          have hc := Hc.out
          have hkk := HKK.out
          have eb : decide ((kb : Int) ≤ (n0 : Int)) = true := by simp; omega
          have ec : decide ((kc : Int) ≤ (n0 : Int) + (n3 : Int)) = true := by simp; omega
          have ek : ((k : Int) == ((n0 : Int) + 1) / 2) = true := by simp; omega
          clear hkk
          cases oka
          · cases okb <;> cases okc
            all_goals
              go_wp2_with fail
              go_ret
              exact ⟨rfl, b11⟩
          · have ha := Ha.out rfl
            have ea : ((ka : Int) == (n0 : Int) + (n3 : Int)) = true := by simp; omega
            clear ha
            cases okb <;> cases okc
            all_goals
              go_wp2_with fail
              go_ret
              exact ⟨rfl, b11⟩
  · have ks : Blk (((w.alloc (.cells (zk n3) 3)).alloc (.cells (zk n0) 3)).drew) w.heap.size 3 (iv (List.replicate (n3 + 9) 0)) := by
      rw [← zk_is]
      exact ((Blk.new w 3 (zk n3)).alloc _).drew
    have kr : Blk (((w.alloc (.cells (zk n3) 3)).alloc (.cells (zk n0) 3)).drew) (w.heap.size + 1) 3 (iv (List.replicate (n0 + 9) 0)) := by
      rw [← zk_is]
      have := (Blk.new (w.alloc (.cells (zk n3) 3)) 3 (zk n0)).drew
      simpa using this
    have b0 : Below w.heap.size w (((w.alloc (.cells (zk n3) 3)).alloc (.cells (zk n0) 3)).drew) := (((Below.refl _ _).alloc (Nat.le_refl _) _).alloc (by simp) _).drew
    generalize (((w.alloc (.cells (zk n3) 3)).alloc (.cells (zk n0) 3)).drew) = W at kr ks b0 ⊢
    obtain ⟨g1, hgb⟩ : ∃ g, w.heap.size + 1 = g := ⟨_, rfl⟩
    rw [hgb] at kr ⊢
    obtain ⟨g2, hga⟩ : ∃ g, w.heap.size = g := ⟨_, rfl⟩
    rw [hga] at ks ⊢
    have hne : g1 ≠ g2 := by omega
    have l1 : w.heap.size ≤ g1 := by omega
    have l2 : w.heap.size ≤ g2 := by omega
    clear hga hgb
    go_wp2_with (with_reducible refine halt_copy ?_)
    refine ⟨wpList_copy_blk W rfl _ _ _ rfl 3 i0 1 Try.underlying22 hi0 hz1 g1 0 (n0 + 9) (n0 + 9) _ kr (by rw [iv_len, List.length_replicate]; omega) rfl A0 n0 c0 _ rfl (h0.below b0) (iv_one _) ?_⟩
    intro w1 krq o1 z1
    have b1 : Below w.heap.size w w1 := b0.trans (o1.below l1 b0.size)
    replace ks := ks.only o1 (by omega)
    replace kr : Blk w1 g1 3 (iv xs0 ++ iv (List.replicate 9 0)) := by
      rw [show min n0 (n0 + 9) = n0 by omega, Nat.mul_one, List.take_zero, List.nil_append, List.take_of_length_le (by rw [iv_len, HX.out]; exact Nat.le_refl _), Nat.zero_add, ← iv_drop, List.drop_replicate, show n0 + 9 - n0 = 9 by omega] at krq
      exact krq
    clear o1 z1 krq
    go_wp2_with (with_reducible refine halt_copy ?_)
    refine ⟨wpList_copy_blk w1 rfl _ _ _ rfl 3 i0 1 Try.underlying22 hi0 hz1 g2 0 (n3 + 9) (n3 + 9) _ ks (by rw [iv_len, List.length_replicate]; omega) rfl A3 n3 c3 _ rfl (h3.below b1) (iv_one _) ?_⟩
    intro w2 ksq o1 z1
    have b2 : Below w.heap.size w w2 := b1.trans (o1.below l2 b1.size)
    replace kr := kr.only o1 (by omega)
    replace ks : Blk w2 g2 3 (iv xs3 ++ iv (List.replicate 9 0)) := by
      rw [show min n3 (n3 + 9) = n3 by omega, Nat.mul_one, List.take_zero, List.nil_append, List.take_of_length_le (by rw [iv_len, HV.out]; exact Nat.le_refl _), Nat.zero_add, ← iv_drop, List.drop_replicate, show n3 + 9 - n3 = 9 by omega] at ksq
      exact ksq
    clear o1 z1 ksq
    have q1 := fun W => run_slice_hi (P := Try.prog) W 22 3 i0 Try.underlying22 hi0 (some ⟨g1, 0, none⟩) (n0 + 9) (n0 + 9) .i64 n0 (by omega)
    have q2 := fun W => run_slice_hi (P := Try.prog) W 22 3 i0 Try.underlying22 hi0 (some ⟨g2, 0, none⟩) (n3 + 9) (n3 + 9) .i64 n3 (by omega)
    go_wp2_with fail
    go_quiet (fail)
    have b3 : Below w.heap.size w (w2.drewN nq) := below_drewN b2 nq
    replace kr := kr.drewN nq
    replace ks := ks.drewN nq
    clear q1 q2 b0 b1 b2
    generalize w2.drewN nq = w3 at b3 kr ks ⊢
    go_wp2_with fail
    refine (InsertInts_either (some ⟨g1, 0, none⟩) n0 (n0 + 9) a1 xs0 (some ⟨g2, 0, none⟩) n3 (n3 + 9) xs3 _ (kr.sees (off := 0) (n := n0) (sz := 1) (pre := []) rfl ((iv_len _).trans (HX.out.trans (Nat.mul_one _).symm))) (ks.sees (off := 0) (n := n3) (sz := 1) (pre := []) rfl ((iv_len _).trans (HV.out.trans (Nat.mul_one _).symm))) (by omega)).mono ?_
    rintro e w4 ⟨Aa, ka, ca, oka, rfl, Ha, d4⟩
    have b4 : Below w.heap.size w w4 := b3.trans (d4.mono b3.size)
    replace kr := kr.below d4 kr.lt
    replace ks := ks.below d4 ks.lt
    clear d4
    go_wp2_with fail
    refine (DeleteInts_either (some ⟨g1, 0, none⟩) n0 (n0 + 9) a1 a2 xs0 _ (kr.sees (off := 0) (n := n0) (sz := 1) (pre := []) rfl ((iv_len _).trans (HX.out.trans (Nat.mul_one _).symm))) (by omega)).mono ?_
    rintro e w5 ⟨Ab, kb, cb, okb, rfl, Hb, d5⟩
    have b5 : Below w.heap.size w w5 := b4.trans (d5.mono b4.size)
    replace kr := kr.below d5 kr.lt
    replace ks := ks.below d5 ks.lt
    clear d5
    go_wp2_with fail
    refine (ReplaceInts_either (some ⟨g1, 0, none⟩) n0 (n0 + 9) a1 a2 xs0 (some ⟨g2, 0, none⟩) n3 (n3 + 9) xs3 _ (kr.sees (off := 0) (n := n0) (sz := 1) (pre := []) rfl ((iv_len _).trans (HX.out.trans (Nat.mul_one _).symm))) (ks.sees (off := 0) (n := n3) (sz := 1) (pre := []) rfl ((iv_len _).trans (HV.out.trans (Nat.mul_one _).symm))) (by omega)).mono ?_
    rintro e w6 ⟨Ac, kc, cc, okc, rfl, Hc, d6⟩
    have b6 : Below w.heap.size w w6 := b5.trans (d6.mono b5.size)
    replace kr := kr.below d6 kr.lt
    replace ks := ks.below d6 ks.lt
    clear d6
    go_wp2_with fail
    have z1 : Sees (w6.alloc (.cells #[.slice (some ⟨g1, 0, none⟩) n0 (n0 + 9), .slice (some ⟨g2, 0, none⟩) n3 (n3 + 9)] 22)) (some ⟨w6.heap.size, 0, none⟩) 2 1 (qv [⟨(some ⟨g1, 0, none⟩), n0, n0 + 9, xs0⟩, ⟨(some ⟨g2, 0, none⟩), n3, n3 + 9, xs3⟩]) := (Blk.new w6 22 #[.slice (some ⟨g1, 0, none⟩) n0 (n0 + 9), .slice (some ⟨g2, 0, none⟩) n3 (n3 + 9)]).sees (off := 0) (n := 2) (sz := 1) (pre := []) (xs := qv [⟨(some ⟨g1, 0, none⟩), n0, n0 + 9, xs0⟩, ⟨(some ⟨g2, 0, none⟩), n3, n3 + 9, xs3⟩]) (post := []) rfl rfl
    have bA : Below w.heap.size w (w6.alloc (.cells #[.slice (some ⟨g1, 0, none⟩) n0 (n0 + 9), .slice (some ⟨g2, 0, none⟩) n3 (n3 + 9)] 22)) := b6.alloc b6.size _
    replace kr := kr.alloc (.cells #[.slice (some ⟨g1, 0, none⟩) n0 (n0 + 9), .slice (some ⟨g2, 0, none⟩) n3 (n3 + 9)] 22)
    replace ks := ks.alloc (.cells #[.slice (some ⟨g1, 0, none⟩) n0 (n0 + 9), .slice (some ⟨g2, 0, none⟩) n3 (n3 + 9)] 22)
    have z2 : All (w6.alloc (.cells #[.slice (some ⟨g1, 0, none⟩) n0 (n0 + 9), .slice (some ⟨g2, 0, none⟩) n3 (n3 + 9)] 22)) [⟨(some ⟨g1, 0, none⟩), n0, n0 + 9, xs0⟩, ⟨(some ⟨g2, 0, none⟩), n3, n3 + 9, xs3⟩] := by
      intro p hp
      simp only [List.mem_cons, List.not_mem_nil, or_false] at hp
      rcases hp with rfl | rfl
      · exact ⟨(kr.sees (off := 0) (n := n0) (sz := 1) (pre := []) rfl ((iv_len _).trans (HX.out.trans (Nat.mul_one _).symm))), Nat.le_add_right _ _⟩
      · exact ⟨(ks.sees (off := 0) (n := n3) (sz := 1) (pre := []) rfl ((iv_len _).trans (HV.out.trans (Nat.mul_one _).symm))), Nat.le_add_right _ _⟩
    have E1 : Hid (tot [⟨(some ⟨g1, 0, none⟩), n0, n0 + 9, xs0⟩, ⟨(some ⟨g2, 0, none⟩), n3, n3 + 9, xs3⟩] = n0 + n3) := by show _ = _; simp [tot]
    refine (ConcatInts_any _ 2 2 _ _ z1 z2 (by rw [E1.out]; omega) (by omega)).mono ?_
    rintro e w7 ⟨Ad, cd, rfl, rd, d7⟩
    have b7 : Below w.heap.size w w7 := bA.trans (d7.mono bA.size)
    replace kr := kr.below d7 kr.lt
    replace ks := ks.below d7 ks.lt
    rw [E1.out]
    clear d7 z1 z2 rd bA E1
    go_wp2_with fail
    refine (ChunkInts_ok (some ⟨g1, 0, none⟩) n0 (n0 + 9) 2 xs0 _ (kr.sees (off := 0) (n := n0) (sz := 1) (pre := []) rfl ((iv_len _).trans (HX.out.trans (Nat.mul_one _).symm))) (by omega) (by omega) (by omega) (by omega)).mono ?_
    rintro e w8 ⟨Ae, ce, k, qs, rfl, me, hq, d8⟩
    have b8 : Below w.heap.size w w8 := b7.trans (d8.mono b7.size)
    replace kr := kr.below d8 kr.lt
    replace ks := ks.below d8 ks.lt
    have hkk : k = (n0 + 1) / 2 := by
      have h1 := hq.2.1
      rcases Nat.eq_zero_or_pos k with h | h
      · omega
      · have h2 := hq.2.2 (k - 1) (by omega)
        omega
    have HKK := hide hkk
    clear d8 me hq hkk
    have e1 : (((n0 + n3 : Nat) : Int) != (n0 : Int) + (n3 : Int)) = false := by simp
    go_wp2_with fail
    refine (sameInts_b A0 (some ⟨g1, 0, none⟩) n0 n0 c0 (n0 + 9) xs0 xs0 _ (h0.below b8) (kr.sees (off := 0) (n := n0) (sz := 1) (pre := []) rfl ((iv_len _).trans (HX.out.trans (Nat.mul_one _).symm))) (by omega) (by omega)).mono ?_
    rintro e w9 ⟨rfl, d9⟩
    have b9 : Below w.heap.size w w9 := b8.trans (d9.mono b8.size)
    replace kr := kr.below d9 kr.lt
    replace ks := ks.below d9 ks.lt
    rw [decide_eq_true rfl]
    clear d9
    go_wp2_with fail
    refine (sameInts_b A3 (some ⟨g2, 0, none⟩) n3 n3 c3 (n3 + 9) xs3 xs3 _ (h3.below b9) (ks.sees (off := 0) (n := n3) (sz := 1) (pre := []) rfl ((iv_len _).trans (HV.out.trans (Nat.mul_one _).symm))) (by omega) (by omega)).mono ?_
    rintro e w10 ⟨rfl, d10⟩
    have b10 : Below w.heap.size w w10 := b9.trans (d10.mono b9.size)
    replace kr := kr.below d10 kr.lt
    replace ks := ks.below d10 ks.lt
    rw [decide_eq_true rfl]
    clear d10
    go_wp2_with fail
    have q1 : ∀ W, (Instr.slice 22 (.slice (some ⟨g1, 0, none⟩) (n0 + 9) (n0 + 9)) (some (.int .i64 (n0 : Int))) none none).run Try.prog W = .ok (.slice (some ⟨g1, n0, none⟩) 9 9) W := fun W => by
      rw [run_slice_lo (P := Try.prog) W 22 3 i0 1 Try.underlying22 hi0 hz1 (some ⟨g1, 0, none⟩) (n0 + 9) (n0 + 9) .i64 n0 (by omega), cutA_some _ _ _ _ _ (by omega), Nat.zero_add, Nat.mul_one, Nat.add_sub_cancel_left]
    have q2 : ∀ W, (Instr.slice 22 (.slice (some ⟨g2, 0, none⟩) (n3 + 9) (n3 + 9)) (some (.int .i64 (n3 : Int))) none none).run Try.prog W = .ok (.slice (some ⟨g2, n3, none⟩) 9 9) W := fun W => by
      rw [run_slice_lo (P := Try.prog) W 22 3 i0 1 Try.underlying22 hi0 hz1 (some ⟨g2, 0, none⟩) (n3 + 9) (n3 + 9) .i64 n3 (by omega), cutA_some _ _ _ _ _ (by omega), Nat.zero_add, Nat.mul_one, Nat.add_sub_cancel_left]
    have v1 : Sees w10.drew (some ⟨g1, n0, none⟩) 9 1 (iv (List.replicate 9 0)) := Blk.sees (pre := iv xs0) (post := []) (by rw [List.append_nil]; exact kr.drew) (by rw [iv_len, HX.out]) (by rw [iv_len]; simp)
    have v2 : Sees w10.drew (some ⟨g2, n3, none⟩) 9 1 (iv (List.replicate 9 0)) := Blk.sees (pre := iv xs3) (post := []) (by rw [List.append_nil]; exact ks.drew) (by rw [iv_len, HV.out]) (by rw [iv_len]; simp)
    have V1 := hide v1
    have V2 := hide v2
    have B10 := hide b10.drew
    clear v1 v2 kr ks b10 b9 b8 b7 b6 b5 b4 b3 e1
    go_region_with (go_at_call 10; refine (joined_any _ _ 9 9 9 9 _ _ _ V1.out V2.out (by omega)).mono ?_; rintro e w11 ⟨Aj, cj, rfl, rj, d11⟩; have b11 : Below w.heap.size w w11 := B10.out.trans (d11.mono B10.out.size); rw [List.replicate_append_replicate] at rj; clear d11)
    all_goals
      clear q1 q2
      try go_simp
      go_wp2_with fail
      go_loop [111] (fun t => ∃ j : Nat, j ≤ 18 ∧ t = .int .i64 j) (fun t => 18 - (intOf t).toNat)
      case atStart => exact ⟨0, Nat.zero_le _, rfl⟩
      case round =>
        obtain ⟨j, hj, rfl⟩ := hrel
        by_cases hlt : j < 18
        · obtain ⟨ad, x, rfl, _, HXm, hcx⟩ := rj.sees.int hlt
          obtain rfl : x = 0 := by
            have t1 := HXm.out
            rw [List.getElem?_replicate, if_pos hlt] at t1
            exact (Option.some.inj t1).symm
          have e4 : ((0 : Int) != 0) = false := by simp
          go_wp2_with fail
          go_round
          case rel => exact ⟨j + 1, by omega, by go_num⟩
          case measure => simp [intOf]; omega
        · have hb := Hb.out
          have hc := Hc.out
          have hkk := HKK.out
          have eb : decide ((kb : Int) ≤ (n0 : Int)) = true := by simp; omega
          have ec : decide ((kc : Int) ≤ (n0 : Int) + (n3 : Int)) = true := by simp; omega
          have ek : ((k : Int) == ((n0 : Int) + 1) / 2) = true := by simp; omega
          clear hkk
          cases oka
          · cases okb <;> cases okc
            all_goals
              go_wp2_with fail
              go_ret
              exact ⟨rfl, b11⟩
          · have ha := Ha.out rfl
            have ea : ((ka : Int) == (n0 : Int) + (n3 : Int)) = true := by simp; omega
            clear ha
            cases okb <;> cases okc
            all_goals
              go_wp2_with fail
              go_ret
              exact ⟨rfl, b11⟩

set_option maxRecDepth 100000 in
theorem lifted (os : Os) (started : os.Started) (H : Type) (enc : TypeId × Value → H) (F : Stop.Interp) :
    ReturnsInHanded {} Try.checked os 3 .any ((Rows.OpenSpec.upto Rows.fnEditsKeepArgumentSpec).pre6 enc Try.prog Try.f3 Rows.fnEditsKeepArgumentUptoRow.domain false) (((Rows.OpenSpec.upto Rows.fnEditsKeepArgumentSpec).at F).post enc Try.prog Try.f3 false true false false) := by
  refine returnsInHanded_of_cond (C := Try.checked) (s := Rows.OpenSpec.upto Rows.fnEditsKeepArgumentSpec) (k := Rows.uptoSmall) rfl ownKnob_none started (by kernel_rfl) Try.func3
    (OpenSpec.witness (enc := enc) (C := Try.checked) (s := Rows.OpenSpec.upto Rows.fnEditsKeepArgumentSpec) (k := Rows.uptoSmall) rfl false ⟨#[], #[.slice none 0 0, .int .i64 0, .int .i64 0, .slice none 0 0], []⟩ 8 (by kernel_rfl) (by kernel_rfl) (by kernel_rfl)
      (x := ([.nil, .lit (.int .i64 0), .lit (.int .i64 0), .nil], [], [])) (by kernel_rfl) rfl (by kernel_rfl)) ?_
  intro W base args ds gs before hval0 hW hcnd hk _
  have hval : ∀ (j : Nat) t v, Try.f3.params[j]? = some t → args[j]? = some v → Value.okWide Try.prog W .any base t v := hval0
  have hW' := hW
  obtain ⟨p, q, hA0, hV, rfl, hfz, hnd⟩ := hW
  have hA : DataW.TrodAll enc Try.prog W 0 (fun _ => true) true Try.f3.params.toList args.toList ds p := hA0
  rw [Try.params3] at hA hval
  obtain ⟨v0, vs0, d0, ds0, p0, q0, hargs, rfl, rfl, h0, r0⟩ := trodAll_cons hA
  obtain ⟨v1, vs1, d1, ds1, p1, q1, rfl, rfl, rfl, h1, r1⟩ := trodAll_cons r0
  obtain ⟨v2, vs2, d2, ds2, p2, q2, rfl, rfl, rfl, h2, r2⟩ := trodAll_cons r1
  obtain ⟨v3, vs3, d3, ds3, p3, q3, rfl, rfl, rfl, h3, r3⟩ := trodAll_cons r2
  obtain ⟨rfl, rfl, rfl⟩ := trodAll_nil r3
  obtain rfl : args = #[v0, v1, v2, v3] := by cases args; simp_all
  obtain ⟨rfl, rfl⟩ := trodVars_none hV
  have k0 := h0
  have lt0 : ∀ x ∈ p0, x.block < W.heap.size := by obtain ⟨m, hm⟩ := k0; exact DataW.trod_lt m _ _ _ hm
  obtain ⟨A0, n0, c0, xs0, rfl, s0, c0c, _, w0, z0, u0⟩ := arg_ints (hval 0 22 v0 rfl rfl) h0
  obtain ⟨a1, rfl, rfl, rfl, w1⟩ := open_int Try.underlying3 (hval 1 3 v1 rfl rfl) h1
  obtain ⟨a2, rfl, rfl, rfl, w2⟩ := open_int Try.underlying3 (hval 2 3 v2 rfl rfl) h2
  have k3 := h3
  have lt3 : ∀ x ∈ p3, x.block < W.heap.size := by obtain ⟨m, hm⟩ := k3; exact DataW.trod_lt m _ _ _ hm
  obtain ⟨A3, n3, c3, xs3, rfl, s3, c3c, _, w3, z3, u3⟩ := arg_ints (hval 3 22 v3 rfl rfl) h3
  clear hA0 hval0
  have hup : n0 + n3 ≤ 1048576 := by
    have hk1 := of_decide_eq_true hk
    simp only [List.append_nil, Rows.uptoBulkAll] at hk1
    omega
  refine (walk A0 n0 c0 xs0 a1 a2 A3 n3 c3 xs3 W s0 c0c w0 w1 w2 s3 c3c w3 hup).mono fun e W' ⟨he, bel⟩ => ?_
  subst he
  exact ⟨_, rfl, _, _, _, [], _, [], hW', trodAll_mk1 (shut_bool Try.underlying4 _), (trodAll_cons_mk (Below.trod laidOut (by kernel_rfl) (of_decide_eq_true (by kernel_rfl)) k0 bel lt0) (trodAll_cons_mk (shut_int Try.underlying3 w1) (trodAll_cons_mk (shut_int Try.underlying3 w2) (trodAll_cons_mk (Below.trod laidOut (by kernel_rfl) (of_decide_eq_true (by kernel_rfl)) k3 bel lt3) trodAll_mk0)))), rfl, bel.frame _, fun h => by cases h⟩

theorem over : Rows.fnEditsKeepArgumentUptoRow.holds Try.pinned (Rows.OpenSpec.upto Rows.fnEditsKeepArgumentSpec) :=
  OpenClaim.holds_of_cond 3 Try.f3 rfl rfl rfl rfl rfl rfl rfl ⟨rfl, rfl, rfl, rfl, rfl⟩ rfl rfl rfl rfl rfl (by kernel_rfl) Try.func3 (by kernel_rfl)
    (of_decide_eq_true (by kernel_rfl)) (by unfold Func.isWrapper; first | (rw [if_pos (by decide +kernel)]; kernel_rfl) | (rw [if_neg (by decide +kernel)]; exact ⟨rfl, rfl⟩))
    (fun os started H enc _ F => lifted os started H enc F)

theorem proved : Rows.FnEditsKeepArgumentUptoSaid := over
end Go.Proofs.Ytnbgopagjahkpaa.fnEditsKeepArgument
