/-
  Contracts: slices.Insert of numbers.
-/
import Derived.Test.YtnbgopagjahkpaaSmall
import Derived.Test.YtnbgopagjahkpaaDeleteCore
import Derived.Test.YtnbgopagjahkpaaInsBase
namespace Go.Proofs.Ytnbgopagjahkpaa
open Go.RowKit
set_option linter.unusedVariables false

theorem overlaps_b (w : World) (B : Option Addr) (m d : Nat) (ys : List Value) (hs : Sees w B m 1 ys) {g : Nat} {cs : List Value} (hne : 0 < m → ∀ ad, B = some ad → ad.block ≠ g) (hb : Blk w g 3 cs) (off l c : Nat) :
    (callFunc 21 #[.slice B m d, .slice (some ⟨g, off, none⟩) l c]).run Try.prog w = .ok (.value (.bool false)) w := by
  obtain ⟨i0, hi0, hz0, hz1, hz2⟩ := info_parts intInfo
  rw [run_callFunc_extern Try.func21 (by kernel_rfl) (by kernel_rfl) (by kernel_rfl) (e := Extern.SlicesOverlaps.overlaps #[22, 22] #[4]) (by kernel_rfl),
    run_overlaps_b w 22 4 3 i0 Try.underlying22 hi0 B m d ys hs hne hb off l c]
  rfl
theorem overlaps_a (w : World) (B : Option Addr) (m d : Nat) (ys : List Value) (hs : Sees w B m 1 ys) {g : Nat} {cs : List Value} (hne : 0 < m → ∀ ad, B = some ad → ad.block ≠ g) (hb : Blk w g 3 cs) (off l c : Nat) :
    (callFunc 21 #[.slice (some ⟨g, off, none⟩) l c, .slice B m d]).run Try.prog w = .ok (.value (.bool false)) w := by
  obtain ⟨i0, hi0, hz0, hz1, hz2⟩ := info_parts intInfo
  rw [run_callFunc_extern Try.func21 (by kernel_rfl) (by kernel_rfl) (by kernel_rfl) (e := Extern.SlicesOverlaps.overlaps #[22, 22] #[4]) (by kernel_rfl),
    run_overlaps_a w 22 4 3 i0 Try.underlying22 hi0 B m d ys hs hne hb off l c]
  rfl

/-- what is made -/
def ins (xs : List Int) (i : Nat) (vs : List Int) (j : Nat) : List Int := xs.take i ++ vs ++ xs.drop j
theorem ins_len {xs vs : List Int} {i j n m : Nat} (hx : xs.length = n) (hv : vs.length = m) (hi : i ≤ n) (hj : j ≤ n) : (ins xs i vs j).length = i + m + (n - j) := by
  rw [ins, List.length_append, List.length_append, List.length_take, List.length_drop, hx, hv]
  omega

/-- the cells behind two copies, into the new memory: first the new ones, then the rest of the old ones -/
theorem two_copies (a b : List Value) (cs vs rest : List Value) {i m r : Nat} (hi : (cs.take i).length = i) (hv : vs.length = m) (hr : rest.length = r) (hl : i + m + r ≤ cs.length) :
    ((cs.take i ++ vs ++ cs.drop (i + m)).take (i + m) ++ rest ++ (cs.take i ++ vs ++ cs.drop (i + m)).drop (i + m + r)) = cs.take i ++ vs ++ rest ++ cs.drop (i + m + r) := by
  have h1 : (cs.take i ++ vs).length = i + m := by rw [List.length_append, hi, hv]
  rw [List.take_left' h1]
  have h2 : (cs.take i ++ vs ++ cs.drop (i + m)).drop (i + m + r) = cs.drop (i + m + r) := by
    rw [← List.drop_drop, List.drop_left' h1, List.drop_drop]
  rw [h2]

set_option maxHeartbeats 2000000 in
set_option maxRecDepth 100000 in
theorem Insert_ok (A : Option Addr) (lo hi n c i : Nat) (xs : List Int) (B : Option Addr) (m d : Nat) (vs : List Int) (w : World) (hr : Row w lo hi 3 1 A n c (iv xs)) (hv : Sees w B m 1 (iv vs)) (hB : 0 < m → ∀ ad, B = some ad → ad.block < lo)
    (hin : i ≤ n) (hn : n + m ≤ 17592186044416) (hlo : lo ≤ w.heap.size) :
    Calls Try.prog 12 #[.slice A n c, .int .i64 i, .slice B m d] w fun e w' =>
      ∃ A' c', e = .returned (.slice A' (n + m) c') ∧ Row w' lo w'.heap.size 3 1 A' (n + m) c' (iv (ins xs i vs i)) ∧ Below lo w w' := by
  obtain ⟨i0, hi0, hz0, hz1, hz2⟩ := info_parts intInfo
  have hxl := hr.sees.ilen
  have hvl := hv.ilen
  have hcap := hr.cap
  have hnc := hcap.1
  have hcm := hcap.2
  unfold maxLen at hcm
  clear hcap
  have q1 := fun W => run_slice_lo (P := Try.prog) W 22 3 i0 1 Try.underlying22 hi0 hz1 A n c .i64 i hin
  rcases Nat.eq_zero_or_pos m with hm | hm
  · have e0 : ins xs i vs i = xs := by
      have : vs = [] := List.eq_nil_of_length_eq_zero (hvl.trans hm)
      rw [ins, this, List.append_nil, List.take_append_drop]
    have E0 := hide e0
    have e1 : ((m : Int) == 0) = true := by simp [hm]
    have HM := hide hm
    clear e0 hm hxl hvl
    go_enter Try.func12, Try.ntmps12
    go_wp2_with fail
    go_ret
    refine ⟨A, c, ?_, ?_, Below.refl _ _⟩
    · rw [HM.out]
      rfl
    · rw [E0.out, HM.out]
      exact hr.more (Nat.le_refl _) hr.2.2 (Nat.le_refl _)
  have e1 : ((m : Int) == 0) = false := by simp; omega
  rcases Nat.eq_or_lt_of_le hin with he | hlt
  · subst he
    have e2 : ((i : Int) == (i : Int)) = true := by simp
    have e0 : ins xs i vs i = xs ++ vs := by rw [ins, List.take_of_length_le (by omega), List.drop_of_length_le (by omega), List.append_nil]
    have E0 := hide e0
    clear e0 hxl hvl
    go_enter Try.func12, Try.ntmps12
    go_wp2_with (at_builtin; refine halt_here ?_)
    refine ⟨wpList_append_sees w rfl _ _ _ rfl lo hi 3 i0 _ 1 8 Try.underlying22 hi0 hz0 hz1 hz2 rfl (by omega) A i c _ rfl hr B m d _ rfl hv (iv_one _) (by unfold maxLen; omega) (by omega) hlo ?_⟩
    intro A2 c2 w2 hr2 ho2 _
    rw [← iv_append, ← E0.out] at hr2
    have hb2 := ho2.below (Nat.le_refl _) hlo
    clear ho2
    go_wp2_with fail
    go_ret
    exact ⟨A2, c2, rfl, hr2, hb2⟩
  have e2 : ((i : Int) == (n : Int)) = false := by simp; omega
  obtain ⟨g, post, hA, hlg, hhi, hb, hl⟩ : ∃ g post, A = some ⟨g, 0, none⟩ ∧ lo ≤ g ∧ g < hi ∧ Blk w g 3 (iv xs ++ post) ∧ (iv xs ++ post).length = c * 1 := by
    obtain ⟨_, h, _, _⟩ := hr.form (by omega)
    exact hr.block h
  subst hA
  have hne : 0 < m → ∀ ad, B = some ad → ad.block ≠ g := fun h ad ha => by have := hB h ad ha; omega
  have hgs : g < w.heap.size := hb.lt
  have HX := hide hxl
  have HV := hide hvl
  have HL := hide hl
  have HR := hide hr
  have HB := hide hB
  have HNE := hide hne
  clear hxl hvl hl hr hB hne
  have hw1 : IntKind.i64.wrap ((i : Int) + (m : Int)) = (i : Int) + (m : Int) := by rw [IntKind.wrap_i64]; omega
  rcases Nat.lt_or_ge c (n + m) with hc | hc
  · have e3 : decide ((c : Int) < (n : Int) + (m : Int)) = true := by simp; omega
    have q2 := fun W => run_slice_hi (P := Try.prog) W 22 3 i0 Try.underlying22 hi0 (some ⟨g, 0, none⟩) n c .i64 i (by omega)
    go_enter Try.func12, Try.ntmps12
    go_wp2_with (at_builtin; refine halt_here ?_)
    refine ⟨wpList_append_zeros w rfl _ _ _ _ rfl 3 i0 _ .i64 .i64 Try.underlying22 Try.underlying3 hi0 hz0 hz1 hz2 g i c (n + m - i) _ hb (by rw [List.length_append, iv_len, HX.out]; omega) (by omega) (by omega) (by omega) _ (show ((n : Int) + (m : Int) - (i : Int)) = ((n + m - i : Nat) : Int) by omega) rfl rfl ?_⟩
    intro c2 w2 g1 g2 hb2 hbel2 hs2
    rw [show i + (n + m - i) = n + m by omega] at g1 hb2 ⊢
    have hb3 : Blk w2 w.heap.size 3 (iv (xs.take i ++ List.replicate (c2 - i) 0)) := by
      rw [zeroInts, zeroInts, List.take_append_of_le_length (by rw [iv_len, HX.out]; omega), ← iv_take, ← iv_append, ← iv_append, List.append_assoc, List.replicate_append_replicate, show n + m - i + (c2 - (n + m)) = c2 - i by omega] at hb2
      exact hb2
    have hv2 := hv.below hbel2
    have hb1 : Below lo w w2 := hbel2.mono hlo
    have hgG : g < w.heap.size := hgs
    have HW := hide (HR.out.sees.below hbel2)
    have HBL : Hid (∀ W, Below w.heap.size w2 W → Sees W (some ⟨g, 0, none⟩) n 1 (iv xs)) := fun W hW => HR.out.sees.below (hbel2.trans (hW.mono (Nat.le_refl _)))
    have HLO := hide hlo
    generalize w.heap.size = G at hb3 hgG hs2 HBL HLO ⊢
    clear hb2 hbel2 q2 HW hgs hb
    unfold maxLen at g2
    have q3 : ∀ W, (Instr.slice 22 (.slice (some ⟨G, 0, none⟩) (n + m) c2) (some (.int .i64 (i : Int))) none none).run Try.prog W = .ok (.slice (some ⟨G, i, none⟩) (n + m - i) (c2 - i)) W := fun W => by
      rw [run_slice_lo (P := Try.prog) W 22 3 i0 1 Try.underlying22 hi0 hz1 (some ⟨G, 0, none⟩) (n + m) c2 .i64 i (by omega), cutA_some _ _ _ _ _ (by omega), Nat.zero_add, Nat.mul_one]
    go_wp2_with (with_reducible refine halt_copy ?_)
    refine ⟨wpList_copy_blk2 w2 rfl _ _ _ rfl 3 i0 1 Try.underlying22 hi0 hz1 G i (n + m - i) (c2 - i) _ hb3 (by rw [iv_len, List.length_append, List.length_take, List.length_replicate, HX.out]; omega) rfl B m d _ rfl hv2 (fun u hu => iv_one _ u (List.mem_of_mem_take hu)) ?_⟩
    intro w3 hb4 ho4 hs4
    rw [show min m (n + m - i) = m by omega] at hb4 ⊢
    have hlt2 : (xs.take i).length = i := by rw [List.length_take, HX.out]; omega
    have hb5 : Blk w3 G 3 (iv (xs.take i ++ vs ++ List.replicate (c2 - (i + m)) 0)) := by
      have t1 : (iv vs).take m = iv vs := List.take_of_length_le (by rw [iv_len, HV.out]; exact Nat.le_refl _)
      rw [Nat.mul_one, t1, iv_append, List.take_left' (by rw [iv_len, hlt2]), ← List.drop_drop, List.drop_left' (by rw [iv_len, hlt2]), ← iv_drop, List.drop_replicate, ← iv_append, ← iv_append, show c2 - i - m = c2 - (i + m) by omega] at hb4
      exact hb4
    have hx3 : Sees w3 (some ⟨g, 0, none⟩) n 1 (iv xs) := HBL.out w3 (ho4.below (Nat.le_refl _) (by omega))
    have hb6 : Below lo w w3 := hb1.trans (ho4.below HLO.out (by have := HLO.out; omega))
    clear hb4 ho4 hb3 q3 HBL hb1
    have q4 : ∀ W, (Instr.slice 22 (.slice (some ⟨G, 0, none⟩) (n + m) c2) (some (.int .i64 ((i : Int) + (m : Int)))) none none).run Try.prog W = .ok (.slice (some ⟨G, i + m, none⟩) (n - i) (c2 - (i + m))) W := fun W => by
      rw [show (i : Int) + (m : Int) = ((i + m : Nat) : Int) by omega, run_slice_lo (P := Try.prog) W 22 3 i0 1 Try.underlying22 hi0 hz1 (some ⟨G, 0, none⟩) (n + m) c2 .i64 (i + m) (by omega), cutA_some _ _ _ _ _ (by omega), Nat.zero_add, Nat.mul_one, show n + m - (i + m) = n - i by omega]
    go_wp2_with fail
    go_still_tail 8, (by kernel_rfl)
    clear q1 q4
    change wpList _ _ _ _ _ w3.drew
    have hsee : Sees w3.drew (cutA (some ⟨g, 0, none⟩) c i 1) (n - i) 1 (iv (xs.drop i)) := by
      have h1 := (hx3.cutA (k := i) (m := n - i) (c := c) (by omega) hnc).drew
      rw [Nat.mul_one, Nat.mul_one, ← iv_drop, ← iv_take, List.take_of_length_le (by rw [List.length_drop, HX.out]; exact Nat.le_refl _)] at h1
      exact h1
    refine wpList_copy_blk2 w3.drew rfl _ _ _ rfl 3 i0 1 Try.underlying22 hi0 hz1 G (i + m) (n - i) (c2 - (i + m)) _ hb5.drew (by rw [iv_len, List.length_append, List.length_append, hlt2, HV.out, List.length_replicate]; omega) rfl _ (n - i) (c - i) (iv (xs.drop i)) rfl hsee (fun u hu => iv_one _ u (List.mem_of_mem_take hu)) ?_
    intro w4 hb7 ho7 hs7
    rw [Nat.min_self] at hb7 ⊢
    have hlt3 : (xs.take i ++ vs).length = i + m := by rw [List.length_append, hlt2, HV.out]
    have hb8 : Blk w4 G 3 (iv (ins xs i vs i) ++ iv (List.replicate (c2 - (n + m)) 0)) := by
      have t1 : (iv (xs.drop i)).take (n - i) = iv (xs.drop i) := List.take_of_length_le (by rw [iv_len, List.length_drop, HX.out]; exact Nat.le_refl _)
      rw [Nat.mul_one, t1, iv_append (xs.take i ++ vs), List.take_left' (by rw [iv_len, hlt3]), ← List.drop_drop, List.drop_left' (by rw [iv_len, hlt3]), ← iv_drop, List.drop_replicate, ← iv_append, show c2 - (i + m) - (n - i) = c2 - (n + m) by omega] at hb7
      exact hb7
    have hb9 : Below lo w w4 := hb6.trans ((below_drewN (Below.refl _ _) 1).trans (ho7.below HLO.out (by have := HLO.out; have := hs4; simp; omega)))
    clear hb7 ho7 hsee hx3 hb5
    go_wp2_with fail
    go_ret
    refine ⟨_, c2, rfl, Row.of_blk hb8 ?_ ?_ g1 (by unfold maxLen; omega) HLO.out hb8.lt (Nat.le_refl _), hb9⟩
    · rw [List.length_append, iv_len, iv_len, ins_len HX.out HV.out hin hin, List.length_replicate]; omega
    · rw [iv_len, ins_len HX.out HV.out hin hin]; omega
  · have e3 : decide ((c : Int) < (n : Int) + (m : Int)) = false := by simp; omega
    obtain ⟨cs, hcs⟩ : ∃ cs, cs = iv xs ++ post := ⟨_, rfl⟩
    have HCS := hide hcs
    have hcl : cs.length = c := by rw [hcs, HL.out, Nat.mul_one]
    have HCL := hide hcl
    rw [← hcs] at hb
    clear hcs hcl
    have q2 : ∀ W, (Instr.slice 22 (.slice (some ⟨g, 0, none⟩) n c) none (some (.int .i64 ((n : Int) + (m : Int)))) none).run Try.prog W = .ok (.slice (some ⟨g, 0, none⟩) (n + m) c) W := fun W => by
      rw [show (n : Int) + (m : Int) = ((n + m : Nat) : Int) by omega, run_slice_hi (P := Try.prog) W 22 3 i0 Try.underlying22 hi0 (some ⟨g, 0, none⟩) n c .i64 (n + m) (by omega)]
    have q3 : ∀ W, (Instr.slice 22 (.slice (some ⟨g, 0, none⟩) (n + m) c) (some (.int .i64 ((i : Int) + (m : Int)))) none none).run Try.prog W = .ok (.slice (some ⟨g, i + m, none⟩) (n - i) (c - (i + m))) W := fun W => by
      rw [show (i : Int) + (m : Int) = ((i + m : Nat) : Int) by omega, run_slice_lo (P := Try.prog) W 22 3 i0 1 Try.underlying22 hi0 hz1 (some ⟨g, 0, none⟩) (n + m) c .i64 (i + m) (by omega), cutA_some _ _ _ _ _ (by omega), Nat.zero_add, Nat.mul_one, show n + m - (i + m) = n - i by omega]
    have q4 : ∀ W, (Instr.slice 22 (.slice (some ⟨g, 0, none⟩) (n + m) c) (some (.int .i64 (i : Int))) none none).run Try.prog W = .ok (.slice (some ⟨g, i, none⟩) (n + m - i) (c - i)) W := fun W => by
      rw [run_slice_lo (P := Try.prog) W 22 3 i0 1 Try.underlying22 hi0 hz1 (some ⟨g, 0, none⟩) (n + m) c .i64 i (by omega), cutA_some _ _ _ _ _ (by omega), Nat.zero_add, Nat.mul_one]
    have hov := overlaps_b w B m d _ hv HNE.out hb (i + m) (n - i) (c - (i + m))
    go_enter Try.func12, Try.ntmps12
    go_wp2_with (simp only [hov])
    clear hov
    go_still_tail 8, (by kernel_rfl)
    clear q1 q2 q3
    change wpList _ _ _ _ _ w.drew
    have hlx : (cs.take i).length = i := by rw [List.length_take, HCL.out]; omega
    have hsee : Sees w.drew (some ⟨g, i, none⟩) (n + m - i) 1 ((cs.drop i).take (n + m - i)) := by
      refine Blk.sees (pre := cs.take i) (post := cs.drop (n + m)) (e := 3) ?_ hlx (by rw [List.length_take, List.length_drop, HCL.out]; omega)
      have : cs.take i ++ (cs.drop i).take (n + m - i) ++ cs.drop (n + m) = cs := by
        rw [List.append_assoc, show cs.drop (n + m) = (cs.drop i).drop (n + m - i) by rw [List.drop_drop, show i + (n + m - i) = n + m by omega], List.take_append_drop, List.take_append_drop]
      rw [this]
      exact hb.drew
    have hmid : ((cs.drop i).take (n + m - i)).take (n - i) = iv (xs.drop i) := by
      rw [List.take_take, show min (n - i) (n + m - i) = n - i by omega, HCS.out, List.drop_append_of_le_length (by rw [iv_len, HX.out]; omega), List.take_append_of_le_length (by rw [List.length_drop, iv_len, HX.out]; exact Nat.le_refl _), ← iv_drop, List.take_of_length_le (by rw [iv_len, List.length_drop, HX.out]; exact Nat.le_refl _)]
    refine wpList_copy_blk2 w.drew rfl _ _ _ rfl 3 i0 1 Try.underlying22 hi0 hz1 g (i + m) (n - i) (c - (i + m)) _ hb.drew (by rw [HCL.out]; omega) rfl _ (n + m - i) (c - i) _ rfl hsee (by rw [show min (n + m - i) (n - i) = n - i by omega, Nat.mul_one, hmid]; exact iv_one _) ?_
    intro w1 hb1 ho1 hs1
    rw [show min (n + m - i) (n - i) = n - i by omega] at hb1 ⊢
    rw [Nat.mul_one, hmid, show i + m + (n - i) = n + m by omega] at hb1
    clear hsee hmid
    have hv1 : Sees w1 B m 1 (iv vs) := by
      refine hv.drew.keep (by rw [hs1]; exact Nat.le_refl _) fun ad ha => ho1.block _ ?_ ?_
      · have := HB.out hm ad ha
        simp
        omega
      · have := HNE.out hm ad ha
        omega
    go_wp2_with (with_reducible refine halt_copy ?_)
    refine ⟨wpList_copy_blk2 w1 rfl _ _ _ rfl 3 i0 1 Try.underlying22 hi0 hz1 g i (n + m - i) (c - i) _ hb1 (by rw [List.length_append, List.length_append, List.length_take, List.length_drop, iv_len, List.length_drop, HCL.out, HX.out]; omega) rfl B m d _ rfl hv1 (fun u hu => iv_one _ u (List.mem_of_mem_take hu)) ?_⟩
    intro w2 hb2 ho2 hs2
    rw [show min m (n + m - i) = m by omega] at hb2 ⊢
    have hlm : (cs.take (i + m)).length = i + m := by rw [List.length_take, HCL.out]; omega
    have hb3 : Blk w2 g 3 (iv (ins xs i vs i) ++ cs.drop (n + m)) := by
      have t1 : (iv vs).take m = iv vs := List.take_of_length_le (by rw [iv_len, HV.out]; exact Nat.le_refl _)
      have t2 : (cs.take (i + m) ++ iv (xs.drop i) ++ cs.drop (n + m)).take i = iv (xs.take i) := by
        rw [List.append_assoc, List.take_append_of_le_length (by rw [hlm]; omega), List.take_take, show min i (i + m) = i by omega, HCS.out, List.take_append_of_le_length (by rw [iv_len, HX.out]; omega), iv_take]
      have t3 : (cs.take (i + m) ++ iv (xs.drop i) ++ cs.drop (n + m)).drop (i + m) = iv (xs.drop i) ++ cs.drop (n + m) := by
        rw [List.append_assoc, List.drop_left' hlm]
      rw [Nat.mul_one, t1, t2, t3, ← List.append_assoc, ← iv_append, ← iv_append] at hb2
      exact hb2
    have ho : Only lo hi w w2 := by
      have h1 : Only g (g + 1) w w2 := ((Only.refl _ _ w).drew.trans ho1).trans ho2
      exact ⟨h1.os, h1.tape, h1.output, h1.size, fun k hk h => h1.block k hk (by omega)⟩
    clear hb2 hb1 q4 hv1
    go_wp2_with fail
    go_ret
    refine ⟨_, c, rfl, Row.of_blk hb3 ?_ ?_ hc (by unfold maxLen; omega) hlg hb3.lt (Nat.le_refl _), ho.below (Nat.le_refl _) hlo⟩
    · rw [List.length_append, iv_len, ins_len HX.out HV.out hin hin, List.length_drop, HCL.out]; omega
    · rw [iv_len, ins_len HX.out HV.out hin hin]; omega
end Go.Proofs.Ytnbgopagjahkpaa
