/-
  Contracts: slices.Replace of numbers.
-/
import Derived.Test.YtnbgopagjahkpaaInsW
import Derived.BigRegion
namespace Go.Proofs.Ytnbgopagjahkpaa
open Go.RowKit
set_option linter.unusedVariables false

/-- what the old slice reads as behind a Replace by fewer numbers -/
def Rest (w : World) (lo : Nat) (A : Option Addr) (n c i j m : Nat) (ys : List Int) : Prop := i + m < j → Row w lo w.heap.size 3 1 A n c (iv (ys ++ List.replicate (j - (i + m)) 0))

set_option maxHeartbeats 400000 in
set_option maxRecDepth 100000 in
theorem Replace_same (A : Option Addr) (lo hi n c i : Nat) (xs : List Int) (B : Option Addr) (m d : Nat) (vs : List Int) (w : World) (hr : Row w lo hi 3 1 A n c (iv xs)) (hv : Sees w B m 1 (iv vs)) (hB : 0 < m → ∀ ad, B = some ad → ad.block < lo)
    (hin : i ≤ n) (hn : n + m ≤ 17592186044416) (hlo : lo ≤ w.heap.size) :
    Calls Try.prog 17 #[.slice A n c, .int .i64 i, .int .i64 i, .slice B m d] w fun e w' =>
      ∃ A' c', e = .returned (.slice A' (i + m + (n - i)) c') ∧ Row w' lo w'.heap.size 3 1 A' (i + m + (n - i)) c' (iv (ins xs i vs i)) ∧ Below lo w w' ∧ Rest w' lo A n c i i m (ins xs i vs i) := by
  obtain ⟨i0, hi0, hz0, hz1, hz2⟩ := info_parts intInfo
  have hcap := hr.cap
  have hnc := hcap.1
  clear hcap
  have q1 := fun W => run_slice_mid (P := Try.prog) W 22 3 i0 1 Try.underlying22 hi0 hz1 A n c .i64 .i64 i i (Nat.le_refl _) (by omega)
  have e1 : ((i : Int) == (i : Int)) = true := by simp
  have HB := hide hB
  clear hB
  go_enter Try.func17, Try.ntmps17
  go_wp2_with fail
  refine (Insert_ok A lo hi n c i xs B m d vs _ hr hv HB.out hin hn hlo).mono ?_
  rintro e w1 ⟨A1, c1, rfl, r1, d1⟩
  rw [show n + m = i + m + (n - i) by omega] at r1 ⊢
  go_wp2_with fail
  go_ret
  exact ⟨A1, c1, rfl, r1, d1, fun h => by omega⟩

/-- the end replaced by fewer numbers -/
theorem ins_end (xs vs : List Int) (i n : Nat) (hx : xs.length = n) : ins xs i vs n = xs.take i ++ vs := by
  rw [ins, List.drop_of_length_le (by omega), List.append_nil]

set_option maxHeartbeats 800000 in
set_option maxRecDepth 100000 in
theorem Replace_end_fewer (A : Option Addr) (lo hi n c i : Nat) (xs : List Int) (B : Option Addr) (m d : Nat) (vs : List Int) (w : World) (hr : Row w lo hi 3 1 A n c (iv xs)) (hv : Sees w B m 1 (iv vs)) 
    (hin : i + m < n) (hn : n ≤ 17592186044416) (hlo : lo ≤ w.heap.size) :
    Calls Try.prog 17 #[.slice A n c, .int .i64 i, .int .i64 n, .slice B m d] w fun e w' =>
      ∃ A' c', e = .returned (.slice A' (i + m + (n - n)) c') ∧ Row w' lo w'.heap.size 3 1 A' (i + m + (n - n)) c' (iv (ins xs i vs n)) ∧ Below lo w w' ∧ Rest w' lo A n c i n m (ins xs i vs n) := by
  obtain ⟨i0, hi0, hz0, hz1, hz2⟩ := info_parts intInfo
  have HX := hide hr.sees.ilen
  have HV := hide hv.ilen
  have hcap := hr.cap
  have hnc := hcap.1
  have hcm := hcap.2
  unfold maxLen at hcm
  clear hcap
  rw [ins_end xs vs i n HX.out, Nat.sub_self, Nat.add_zero]
  have q1 := fun W => run_slice_mid (P := Try.prog) W 22 3 i0 1 Try.underlying22 hi0 hz1 A n c .i64 .i64 i n (by omega) (by omega)
  have q2 := fun W => run_slice_hi (P := Try.prog) W 22 3 i0 Try.underlying22 hi0 A n c .i64 i (by omega)
  have e1 : ((i : Int) == (n : Int)) = false := by simp; omega
  have e2 : ((n : Int) == (n : Int)) = true := by simp
  obtain ⟨g, post, hA, hlg, hhi, hb, hl⟩ : ∃ g post, A = some ⟨g, 0, none⟩ ∧ lo ≤ g ∧ g < hi ∧ Blk w g 3 (iv xs ++ post) ∧ (iv xs ++ post).length = c * 1 := by
    obtain ⟨_, h, _, _⟩ := hr.form (by omega)
    exact hr.block h
  subst hA
  have HL := hide hl
  have HR := hide hr
  clear hl hr
  go_enter Try.func17, Try.ntmps17
  go_wp2_with (at_builtin; refine halt_here ?_)
  refine ⟨wpList_append_blk w rfl _ _ _ rfl 3 i0 1 Try.underlying22 hi0 hz1 g i c (iv xs ++ post) hb HL.out rfl B m d (iv vs) rfl hv (iv_one _) (by omega) ?_⟩
  intro w1 hb1 ho1 hs1
  obtain ⟨k, hk⟩ : ∃ k, i + m = k := ⟨_, rfl⟩
  rw [hk] at hb1 ⊢
  have l1 : k < n := by omega
  have HK := hide hk
  clear hk q1 q2
  have hlk : (xs.take i ++ vs).length = k := by rw [List.length_append, List.length_take, HX.out, HV.out, ← HK.out]; omega
  have HLK := hide hlk
  have hb2 : Blk w1 g 3 (iv (xs.take i ++ vs) ++ (iv (xs.drop k) ++ post)) := by
    have e1 : (iv xs ++ post).take (i * 1) = iv (xs.take i) := by rw [Nat.mul_one, List.take_append_of_le_length (by rw [iv_len, HX.out]; omega), iv_take]
    have e2 : (iv xs ++ post).drop (k * 1) = iv (xs.drop k) ++ post := by rw [Nat.mul_one, List.drop_append_of_le_length (by rw [iv_len, HX.out]; omega), iv_drop]
    rw [e1, e2, ← iv_append] at hb1
    exact hb1
  clear hb1 hlk
  have q3 : ∀ W, (Instr.slice 22 (.slice (some ⟨g, 0, none⟩) n c) (some (.int .i64 (k : Int))) none none).run Try.prog W = .ok (.slice (some ⟨g, k, none⟩) (n - k) (c - k)) W := fun W => by
    rw [run_slice_lo (P := Try.prog) W 22 3 i0 1 Try.underlying22 hi0 hz1 (some ⟨g, 0, none⟩) n c .i64 k (by omega), cutA_some _ _ _ _ _ (by omega), Nat.zero_add, Nat.mul_one]
  go_wp2_with (with_reducible refine halt_clear ?_)
  refine ⟨wpList_clear_blk w1 rfl _ _ rfl 3 i0 _ 1 Try.underlying22 hi0 hz0 rfl (by intro u hu; simp [Value.cells] at hu; subst hu; rfl) (by omega) g k (n - k) (c - k) _ hb2 ?_ (by omega) rfl ?_⟩
  · rw [List.length_append, iv_len, HLK.out, List.length_append, iv_len, List.length_drop, HX.out]; omega
  intro w2 hb3 ho3 hs3
  clear q3
  go_wp2_with fail
  go_ret
  have ho : Only lo hi w w2 := by
    have h1 : Only g (g + 1) w w2 := ho1.trans ho3
    exact ⟨h1.os, h1.tape, h1.output, h1.size, fun k hk h => h1.block k hk (by omega)⟩
  rw [zeroInts, List.take_left' (by rw [iv_len, HLK.out]), show k + (n - k) * 1 = k + (n - k) by omega] at hb3
  have e3 : (iv (xs.take i ++ vs) ++ (iv (xs.drop k) ++ post)).drop (k + (n - k)) = post := by
    rw [← List.append_assoc]
    exact List.drop_left' (by rw [List.length_append, iv_len, HLK.out, iv_len, List.length_drop, HX.out])
  rw [e3] at hb3
  have hpl : n + post.length = c := by have := HL.out; rw [List.length_append, iv_len, HX.out] at this; omega
  have hgg : g < w2.heap.size := hb3.lt
  refine ⟨some ⟨g, 0, none⟩, c, ?_, ?_, ho.below (Nat.le_refl _) hlo, fun _ => ?_⟩
  · rw [HK.out]; rfl
  · rw [HK.out]
    rw [List.append_assoc] at hb3
    refine Row.of_blk hb3 ?_ ?_ (by omega) (by unfold maxLen; omega) hlg hgg (Nat.le_refl _)
    · rw [List.length_append, iv_len, HLK.out, List.length_append, iv_len, List.length_replicate]; omega
    · rw [iv_len, HLK.out]; omega
  · rw [HK.out, ← iv_append] at *
    refine Row.of_blk hb3 ?_ ?_ (by omega) (by unfold maxLen; omega) hlg hgg (Nat.le_refl _)
    · rw [List.length_append, iv_len, List.length_append, HLK.out, List.length_replicate]; omega
    · rw [iv_len, List.length_append, HLK.out, List.length_replicate]; omega

set_option maxHeartbeats 800000 in
set_option maxRecDepth 100000 in
theorem Replace_end_more (A : Option Addr) (lo hi n c i : Nat) (xs : List Int) (B : Option Addr) (m d : Nat) (vs : List Int) (w : World) (hr : Row w lo hi 3 1 A n c (iv xs)) (hv : Sees w B m 1 (iv vs)) (hB : 0 < m → ∀ ad, B = some ad → ad.block < lo)
    (hin : i < n) (him : n ≤ i + m) (hn : i + m ≤ 17592186044416) (hlo : lo ≤ w.heap.size) :
    Calls Try.prog 17 #[.slice A n c, .int .i64 i, .int .i64 n, .slice B m d] w fun e w' =>
      ∃ A' c', e = .returned (.slice A' (i + m + (n - n)) c') ∧ Row w' lo w'.heap.size 3 1 A' (i + m + (n - n)) c' (iv (ins xs i vs n)) ∧ Below lo w w' ∧ Rest w' lo A n c i n m (ins xs i vs n) := by
  obtain ⟨i0, hi0, hz0, hz1, hz2⟩ := info_parts intInfo
  have HX := hide hr.sees.ilen
  have HV := hide hv.ilen
  have hcap := hr.cap
  have hnc := hcap.1
  have hcm := hcap.2
  unfold maxLen at hcm
  clear hcap
  rw [ins_end xs vs i n HX.out, Nat.sub_self, Nat.add_zero]
  have q1 := fun W => run_slice_mid (P := Try.prog) W 22 3 i0 1 Try.underlying22 hi0 hz1 A n c .i64 .i64 i n (by omega) (by omega)
  have q2 := fun W => run_slice_hi (P := Try.prog) W 22 3 i0 Try.underlying22 hi0 A n c .i64 i (by omega)
  have e1 : ((i : Int) == (n : Int)) = false := by simp; omega
  have e2 : ((n : Int) == (n : Int)) = true := by simp
  have hr2 : Row w lo hi 3 1 A i c (iv (xs.take i)) := by
    have h1 := hr
    rw [← List.take_append_drop i xs, iv_append] at h1
    exact h1.short (by rw [iv_len, List.length_take, HX.out]; omega) (by omega)
  have HB := hide hB
  clear hB hr
  go_enter Try.func17, Try.ntmps17
  go_wp2_with (at_builtin; refine halt_here ?_)
  refine ⟨wpList_append_sees w rfl _ _ _ rfl lo hi 3 i0 _ 1 8 Try.underlying22 hi0 hz0 hz1 hz2 rfl (by omega) A i c _ rfl hr2 B m d _ rfl hv (iv_one _) (by unfold maxLen; omega) (by omega) hlo ?_⟩
  intro A1 c1 w1 r1 o1 _
  rw [← iv_append] at r1
  have b1 := o1.below (Nat.le_refl _) hlo
  obtain ⟨k, hk⟩ : ∃ k, i + m = k := ⟨_, rfl⟩
  rw [hk] at r1 him ⊢
  have HK := hide hk
  clear o1 hk q1 q2 hr2
  go_wp2_with fail
  go_ret
  refine ⟨A1, c1, ?_, ?_, b1, fun h => ?_⟩
  · rw [HK.out]; rfl
  · rw [HK.out]; exact r1
  · have := HK.out; omega

set_option maxHeartbeats 2000000 in
set_option maxRecDepth 100000 in
theorem Replace_mid_grow (A : Option Addr) (lo hi n c i j T : Nat) (xs : List Int) (B : Option Addr) (m d : Nat) (vs : List Int) (w : World) (hr : Row w lo hi 3 1 A n c (iv xs)) (hv : Sees w B m 1 (iv vs)) (hB : 0 < m → ∀ ad, B = some ad → ad.block < lo)
    (hT : i + m + (n - j) = T) (hij : i < j) (hj : j < n) (htot : c < T) (hn : T ≤ 17592186044416) (hn2 : n ≤ 17592186044416) (hlo : lo ≤ w.heap.size) :
    Calls Try.prog 17 #[.slice A n c, .int .i64 i, .int .i64 j, .slice B m d] w fun e w' =>
      ∃ A' c', e = .returned (.slice A' T c') ∧ Row w' lo w'.heap.size 3 1 A' T c' (iv (ins xs i vs j)) ∧ Below lo w w' ∧ Rest w' lo A n c i j m (ins xs i vs j) := by
  obtain ⟨i0, hi0, hz0, hz1, hz2⟩ := info_parts intInfo
  have HX := hide hr.sees.ilen
  have HV := hide hv.ilen
  have hcap := hr.cap
  have hnc := hcap.1
  have hcm := hcap.2
  unfold maxLen at hcm
  clear hcap
  have q1 := fun W => run_slice_mid (P := Try.prog) W 22 3 i0 1 Try.underlying22 hi0 hz1 A n c .i64 .i64 i j (by omega) (by omega)
  have q2 := fun W => run_slice_hi (P := Try.prog) W 22 3 i0 Try.underlying22 hi0 A n c .i64 i (by omega)
  have q3 := fun W => run_slice_lo (P := Try.prog) W 22 3 i0 1 Try.underlying22 hi0 hz1 A n c .i64 j (by omega)
  have e1 : ((i : Int) == (j : Int)) = false := by simp; omega
  have e2 : ((j : Int) == (n : Int)) = false := by simp; omega
  obtain ⟨g, post, hA, hlg, hhi, hb, hl⟩ : ∃ g post, A = some ⟨g, 0, none⟩ ∧ lo ≤ g ∧ g < hi ∧ Blk w g 3 (iv xs ++ post) ∧ (iv xs ++ post).length = c * 1 := by
    obtain ⟨_, h, _, _⟩ := hr.form (by omega)
    exact hr.block h
  subst hA
  have hne : 0 < m → ∀ ad, B = some ad → ad.block ≠ g := fun h ad ha => by have := hB h ad ha; omega
  have HNE := hide hne
  have HL := hide hl
  have HR := hide hr
  have HB := hide hB
  have l1 : i + m ≤ T := by omega
  have l2 : T - i = m + (n - j) := by omega
  have L2 := hide l2
  have HT := hide hT
  clear hl hr hB hne hT l2
  go_enter Try.func17, Try.ntmps17
  go_wp2_with fail
  have hw1 : IntKind.i64.wrap ((i : Int) + (m : Int)) = (i : Int) + (m : Int) := by rw [IntKind.wrap_i64]; omega
  have hw2 : IntKind.i64.wrap ((i : Int) + (m : Int) + ((n - j : Nat) : Int)) = (T : Int) := by have := HT.out; rw [IntKind.wrap_i64]; omega
  go_quiet (fail)
  clear hw2 e1 e2
  have b0 : Below lo w (w.drewN nq) := below_drewN (Below.refl _ _) nq
  have hb0 := hb.drewN nq
  have hv0 := hv.drewN nq
  have hr0 := HR.out.sees.drewN nq
  have hz : (w.drewN nq).heap.size = w.heap.size := rfl
  have hgs : g < w.heap.size := hb.lt
  clear hb hv
  generalize w.drewN nq = W0 at b0 hb0 hv0 hr0 hz ⊢
  have e3 : decide ((c : Int) < (T : Int)) = true := by simp; omega
  go_wp2_with (at_builtin; refine halt_here ?_)
  refine ⟨wpList_append_zeros W0 rfl _ _ _ _ rfl 3 i0 _ .i64 .i64 Try.underlying22 Try.underlying3 hi0 hz0 hz1 hz2 g i c (T - i) _ hb0 (by rw [List.length_append, iv_len, HX.out]; omega) (by omega) (by omega) (by omega) _ (show ((T : Int) - (i : Int)) = ((T - i : Nat) : Int) by omega) rfl rfl ?_⟩
  intro c2 w2 g1 g2 hb2 hbel2 hs2
  rw [show i + (T - i) = T by omega] at g1 hb2 ⊢
  have hb3 : Blk w2 W0.heap.size 3 (iv (xs.take i ++ List.replicate (c2 - i) 0)) := by
    rw [zeroInts, zeroInts, List.take_append_of_le_length (by rw [iv_len, HX.out]; omega), ← iv_take, ← iv_append, ← iv_append, List.append_assoc, List.replicate_append_replicate, show T - i + (c2 - T) = c2 - i by omega] at hb2
    exact hb2
  have hv2 := hv0.below hbel2
  have hb1 : Below lo w w2 := b0.trans (hbel2.mono (by omega))
  have HBL : Hid (∀ W, Below W0.heap.size w2 W → Sees W (some ⟨g, 0, none⟩) n 1 (iv xs)) := fun W hW => hr0.below (hbel2.trans hW)
  have HLO := hide hlo
  have hG : w.heap.size ≤ W0.heap.size := by omega
  generalize W0.heap.size = G at hb3 hs2 HBL hG ⊢
  have hgG : g < G := by omega
  clear hb2 hbel2 q2 hgs hb0 hz b0 hv0 hr0
  unfold maxLen at g2
  have q4 : ∀ W, (Instr.slice 22 (.slice (some ⟨G, 0, none⟩) T c2) (some (.int .i64 (i : Int))) none none).run Try.prog W = .ok (.slice (some ⟨G, i, none⟩) (T - i) (c2 - i)) W := fun W => by
    rw [run_slice_lo (P := Try.prog) W 22 3 i0 1 Try.underlying22 hi0 hz1 (some ⟨G, 0, none⟩) T c2 .i64 i (by omega), cutA_some _ _ _ _ _ (by omega), Nat.zero_add, Nat.mul_one]
  go_wp2_with (with_reducible refine halt_copy ?_)
  refine ⟨wpList_copy_blk2 w2 rfl _ _ _ rfl 3 i0 1 Try.underlying22 hi0 hz1 G i (T - i) (c2 - i) _ hb3 (by rw [iv_len, List.length_append, List.length_take, List.length_replicate, HX.out]; omega) rfl B m d _ rfl hv2 (fun u hu => iv_one _ u (List.mem_of_mem_take hu)) ?_⟩
  intro w3 hb4 ho4 hs4
  rw [show min m (T - i) = m by omega] at hb4 ⊢
  have hlt2 : (xs.take i).length = i := by rw [List.length_take, HX.out]; omega
  have hb5 : Blk w3 G 3 (iv (xs.take i ++ vs ++ List.replicate (c2 - (i + m)) 0)) := by
    have t1 : (iv vs).take m = iv vs := List.take_of_length_le (by rw [iv_len, HV.out]; exact Nat.le_refl _)
    rw [Nat.mul_one, t1, iv_append, List.take_left' (by rw [iv_len, hlt2]), ← List.drop_drop, List.drop_left' (by rw [iv_len, hlt2]), ← iv_drop, List.drop_replicate, ← iv_append, ← iv_append, show c2 - i - m = c2 - (i + m) by omega] at hb4
    exact hb4
  have hx3 : Sees w3 (some ⟨g, 0, none⟩) n 1 (iv xs) := HBL.out w3 (ho4.below (Nat.le_refl _) (by omega))
  have hb6 : Below lo w w3 := hb1.trans (ho4.below (by omega) (by omega))
  clear hb4 ho4 hb3 q4 HBL hb1
  have q5 : ∀ W, (Instr.slice 22 (.slice (some ⟨G, 0, none⟩) T c2) (some (.int .i64 ((i : Int) + (m : Int)))) none none).run Try.prog W = .ok (.slice (some ⟨G, i + m, none⟩) (n - j) (c2 - (i + m))) W := fun W => by
    rw [show (i : Int) + (m : Int) = ((i + m : Nat) : Int) by omega, run_slice_lo (P := Try.prog) W 22 3 i0 1 Try.underlying22 hi0 hz1 (some ⟨G, 0, none⟩) T c2 .i64 (i + m) (by omega), cutA_some _ _ _ _ _ (by have := L2.out; omega), Nat.zero_add, Nat.mul_one, show T - (i + m) = n - j by have := L2.out; omega]
  go_wp2_with fail
  go_still_tail 9, (by kernel_rfl)
  clear q1 q3 q5
  change wpList _ _ _ _ _ w3.drew
  have hsee : Sees w3.drew (cutA (some ⟨g, 0, none⟩) c j 1) (n - j) 1 (iv (xs.drop j)) := by
    have h1 := (hx3.cutA (k := j) (m := n - j) (c := c) (by omega) hnc).drew
    rw [Nat.mul_one, Nat.mul_one, ← iv_drop, ← iv_take, List.take_of_length_le (by rw [List.length_drop, HX.out]; exact Nat.le_refl _)] at h1
    exact h1
  refine wpList_copy_blk2 w3.drew rfl _ _ _ rfl 3 i0 1 Try.underlying22 hi0 hz1 G (i + m) (n - j) (c2 - (i + m)) _ hb5.drew (by rw [iv_len, List.length_append, List.length_append, hlt2, HV.out, List.length_replicate]; have := L2.out; omega) rfl _ (n - j) (c - j) (iv (xs.drop j)) rfl hsee (fun u hu => iv_one _ u (List.mem_of_mem_take hu)) ?_
  intro w4 hb7 ho7 hs7
  rw [Nat.min_self] at hb7 ⊢
  have hlt3 : (xs.take i ++ vs).length = i + m := by rw [List.length_append, hlt2, HV.out]
  have hb8 : Blk w4 G 3 (iv (ins xs i vs j) ++ iv (List.replicate (c2 - T) 0)) := by
    have t1 : (iv (xs.drop j)).take (n - j) = iv (xs.drop j) := List.take_of_length_le (by rw [iv_len, List.length_drop, HX.out]; exact Nat.le_refl _)
    rw [Nat.mul_one, t1, iv_append (xs.take i ++ vs), List.take_left' (by rw [iv_len, hlt3]), ← List.drop_drop, List.drop_left' (by rw [iv_len, hlt3]), ← iv_drop, List.drop_replicate, ← iv_append, show c2 - (i + m) - (n - j) = c2 - T by have := L2.out; omega] at hb7
    exact hb7
  have hb9 : Below lo w w4 := hb6.trans ((below_drewN (Below.refl _ _) 1).trans (ho7.below (by omega) (by simp; omega)))
  clear hb7 ho7 hsee hx3 hb5
  go_wp2_with fail
  go_ret
  have hTT := HT.out
  have hlen : (ins xs i vs j).length = T := by rw [ins_len HX.out HV.out (by omega) (by omega)]; omega
  refine ⟨_, c2, rfl, Row.of_blk hb8 ?_ ?_ g1 (by unfold maxLen; omega) (by omega) hb8.lt (Nat.le_refl _), hb9, fun h => by omega⟩
  · rw [List.length_append, iv_len, iv_len, hlen, List.length_replicate]; omega
  · rw [iv_len, hlen]; omega

/-- clear of an empty part -/
theorem run_clear_empty {P : Program} (w : World) (t ty e : TypeId) (ht : P.underlying t = some (.slice e)) (A : Option Addr) (c : Nat) :
    (Builtin.clear_ #[t] ty #[.slice A 0 c]).run P w = .ok (.tuple #[]) w := by
  cases A <;> simp [Builtin.clear_, run_underlying ht]
theorem wpList_clear_empty {P : Program} (w : World) {ops : Array Oper} {rest : List Oper} {o : Oper} {a : Act} {Q : Exit → Act → World → Prop} (hgd : o.guard = none) (s : Operand) (t : TypeId)
    (ho : o.op = .call { callee := .builtin .clear, args := #[s], argTypes := #[t] }) (e : TypeId) (ht : P.underlying t = some (.slice e)) (A : Option Addr) (c : Nat) (hA : a.eval s = .slice A 0 c)
    (h : wpList P ops Q rest (a.put o.dst (.tuple #[])) w) : wpList P ops Q (o :: rest) a w := by
  refine wpList_plain hgd fun K hK => ?_
  have hr' := run_clear_empty (P := P) w t o.type e ht A c
  unfold Oper.wp execOp
  simp only [ho, resolve, invoke, builtin, Sem.run_bind, Sem.run_pure, Result.andThen_ok, List.map_toArray, List.map_cons, List.map_nil, hA, hr']
  exact hK _ _ h

set_option maxHeartbeats 2000000 in
set_option maxRecDepth 100000 in
theorem Replace_mid_fewer (A : Option Addr) (lo hi n c i j T : Nat) (xs : List Int) (B : Option Addr) (m d : Nat) (vs : List Int) (w : World) (hr : Row w lo hi 3 1 A n c (iv xs)) (hv : Sees w B m 1 (iv vs)) (hB : 0 < m → ∀ ad, B = some ad → ad.block < lo)
    (hT : i + m + (n - j) = T) (hij : i < j) (hj : j < n) (him : i + m ≤ j) (hn2 : n ≤ 17592186044416) (hlo : lo ≤ w.heap.size) :
    Calls Try.prog 17 #[.slice A n c, .int .i64 i, .int .i64 j, .slice B m d] w fun e w' =>
      ∃ A' c', e = .returned (.slice A' T c') ∧ Row w' lo w'.heap.size 3 1 A' T c' (iv (ins xs i vs j)) ∧ Below lo w w' ∧ Rest w' lo A n c i j m (ins xs i vs j) := by
  obtain ⟨i0, hi0, hz0, hz1, hz2⟩ := info_parts intInfo
  have HX := hide hr.sees.ilen
  have HV := hide hv.ilen
  have hcap := hr.cap
  have hnc := hcap.1
  have hcm := hcap.2
  unfold maxLen at hcm
  clear hcap
  have q1 := fun W => run_slice_mid (P := Try.prog) W 22 3 i0 1 Try.underlying22 hi0 hz1 A n c .i64 .i64 i j (by omega) (by omega)
  have q2 := fun W => run_slice_hi (P := Try.prog) W 22 3 i0 Try.underlying22 hi0 A n c .i64 i (by omega)
  have q3 := fun W => run_slice_lo (P := Try.prog) W 22 3 i0 1 Try.underlying22 hi0 hz1 A n c .i64 j (by omega)
  have e1 : ((i : Int) == (j : Int)) = false := by simp; omega
  have e2 : ((j : Int) == (n : Int)) = false := by simp; omega
  obtain ⟨g, post, hA, hlg, hhi, hb, hl⟩ : ∃ g post, A = some ⟨g, 0, none⟩ ∧ lo ≤ g ∧ g < hi ∧ Blk w g 3 (iv xs ++ post) ∧ (iv xs ++ post).length = c * 1 := by
    obtain ⟨_, h, _, _⟩ := hr.form (by omega)
    exact hr.block h
  subst hA
  have hne : 0 < m → ∀ ad, B = some ad → ad.block ≠ g := fun h ad ha => by have := hB h ad ha; omega
  have HNE := hide hne
  have HL := hide hl
  have HR := hide hr
  have HB := hide hB
  have l1 : i + m ≤ T := by omega
  have l2 : T - i = m + (n - j) := by omega
  have L2 := hide l2
  have HT := hide hT
  clear hl hr hB hne hT l2
  go_enter Try.func17, Try.ntmps17
  go_wp2_with fail
  have hw1 : IntKind.i64.wrap ((i : Int) + (m : Int)) = (i : Int) + (m : Int) := by rw [IntKind.wrap_i64]; omega
  have hw2 : IntKind.i64.wrap ((i : Int) + (m : Int) + ((n - j : Nat) : Int)) = (T : Int) := by have := HT.out; rw [IntKind.wrap_i64]; omega
  go_quiet (fail)
  clear hw2 e1 e2
  have b0 : Below lo w (w.drewN nq) := below_drewN (Below.refl _ _) nq
  have hb0 := hb.drewN nq
  have hv0 := hv.drewN nq
  have hr0 := HR.out.sees.drewN nq
  have hz : (w.drewN nq).heap.size = w.heap.size := rfl
  have hgs : g < w.heap.size := hb.lt
  clear hb hv
  generalize w.drewN nq = W0 at b0 hb0 hv0 hr0 hz ⊢
  have l3 : T ≤ n := by have := HT.out; omega
  have e3 : decide ((c : Int) < (T : Int)) = false := by simp; omega
  have q4 : ∀ W, (Instr.slice 22 (.slice (some ⟨g, 0, none⟩) n c) none (some (.int .i64 (T : Int))) none).run Try.prog W = .ok (.slice (some ⟨g, 0, none⟩) T c) W := fun W =>
    run_slice_hi (P := Try.prog) W 22 3 i0 Try.underlying22 hi0 (some ⟨g, 0, none⟩) n c .i64 T (by omega)
  have q5 : ∀ W, (Instr.slice 22 (.slice (some ⟨g, 0, none⟩) T c) (some (.int .i64 (i : Int))) none none).run Try.prog W = .ok (.slice (some ⟨g, i, none⟩) (T - i) (c - i)) W := fun W => by
    rw [run_slice_lo (P := Try.prog) W 22 3 i0 1 Try.underlying22 hi0 hz1 (some ⟨g, 0, none⟩) T c .i64 i (by omega), cutA_some _ _ _ _ _ (by omega), Nat.zero_add, Nat.mul_one]
  have q6 : ∀ W, (Instr.slice 22 (.slice (some ⟨g, 0, none⟩) T c) (some (.int .i64 ((i : Int) + (m : Int)))) none none).run Try.prog W = .ok (.slice (some ⟨g, i + m, none⟩) (n - j) (c - (i + m))) W := fun W => by
    rw [show (i : Int) + (m : Int) = ((i + m : Nat) : Int) by omega, run_slice_lo (P := Try.prog) W 22 3 i0 1 Try.underlying22 hi0 hz1 (some ⟨g, 0, none⟩) T c .i64 (i + m) (by omega), cutA_some _ _ _ _ _ (by have := L2.out; omega), Nat.zero_add, Nat.mul_one, show T - (i + m) = n - j by have := L2.out; omega]
  have hlx : (xs.take i).length = i := by rw [List.length_take, HX.out]; omega
  have hlt3 : (xs.take i ++ vs).length = i + m := by rw [List.length_append, hlx, HV.out]
  have HLX := hide hlx
  have HL3 := hide hlt3
  obtain ⟨cs, hcs⟩ : ∃ cs, cs = iv xs ++ post := ⟨_, rfl⟩
  have HCS := hide hcs
  have hcl : cs.length = c := by rw [hcs, HL.out, Nat.mul_one]
  have HCL := hide hcl
  rw [← hcs] at hb0
  have HTI : Hid (cs.take i = iv (xs.take i)) := by show _ = _; rw [hcs, List.take_append_of_le_length (by rw [iv_len, HX.out]; omega), iv_take]
  have TV : Hid ((iv vs).take m = iv vs) := List.take_of_length_le (by rw [iv_len, HV.out]; exact Nat.le_refl _)
  have TD : Hid ((iv (xs.drop j)).take (n - j) = iv (xs.drop j)) := List.take_of_length_le (by rw [iv_len, List.length_drop, HX.out]; exact Nat.le_refl _)
  clear hlx hlt3 hcs hcl
  go_wp2_with (with_reducible refine halt_copy ?_)
  refine ⟨wpList_copy_blk2 W0 rfl _ _ _ rfl 3 i0 1 Try.underlying22 hi0 hz1 g i (T - i) (c - i) _ hb0 (by rw [HCL.out]; omega) rfl B m d _ rfl hv0 (fun u hu => iv_one _ u (List.mem_of_mem_take hu)) ?_⟩
  intro w1 hb1 ho1 hs1
  rw [show min m (T - i) = m by omega] at hb1 ⊢
  have hD : cs.drop (i + m) = iv ((xs.drop (i + m)).take (j - (i + m))) ++ iv (xs.drop j) ++ post := by
    rw [HCS.out, List.drop_append_of_le_length (by rw [iv_len, HX.out]; omega), ← iv_drop, ← iv_append]
    congr 2
    rw [show xs.drop j = (xs.drop (i + m)).drop (j - (i + m)) by rw [List.drop_drop, show i + m + (j - (i + m)) = j by omega], List.take_append_drop]
  have hb2 : Blk w1 g 3 (iv (xs.take i ++ vs) ++ iv ((xs.drop (i + m)).take (j - (i + m))) ++ iv (xs.drop j) ++ post) := by
    rw [Nat.mul_one, TV.out, HTI.out, hD, ← iv_append, ← List.append_assoc, ← List.append_assoc] at hb1
    exact hb1
  have hb2' := hb2
  rw [List.append_assoc, List.append_assoc, ← List.append_assoc (iv ((xs.drop (i + m)).take (j - (i + m))))] at hb2'
  rw [← hD] at hb2'
  clear hb1
  have hsee : Sees w1.drew (some ⟨g, j, none⟩) (n - j) 1 (iv (xs.drop j)) := by
    refine Blk.sees (pre := iv (xs.take i ++ vs) ++ iv ((xs.drop (i + m)).take (j - (i + m)))) (post := post) (e := 3) hb2.drew ?_ ?_
    · rw [List.length_append, iv_len, iv_len, HL3.out, List.length_take, List.length_drop, HX.out]; omega
    · rw [iv_len, List.length_drop, HX.out]; omega
  have hcj : cutA (some ⟨g, 0, none⟩) c j 1 = some ⟨g, j, none⟩ := by rw [cutA_some _ _ _ _ _ (by omega), Nat.zero_add, Nat.mul_one]
  simp only [hcj] at q3
  have HB2 := hide hb2'
  clear hb2 hb2' hD hcj q4 q5
  go_wp2_with fail
  go_still_tail 9, (by kernel_rfl)
  clear q1 q3 q6
  change wpList _ _ _ _ _ w1.drew
  refine wpList_copy_blk2 w1.drew rfl _ _ _ rfl 3 i0 1 Try.underlying22 hi0 hz1 g (i + m) (n - j) (c - (i + m)) _ HB2.out.drew (by rw [List.length_append, iv_len, HL3.out, List.length_drop, HCL.out]; have := L2.out; omega) rfl _ (n - j) (c - j) (iv (xs.drop j)) rfl hsee (fun u hu => iv_one _ u (List.mem_of_mem_take hu)) ?_
  intro w2 hb3 ho3 hs3
  rw [Nat.min_self] at hb3 ⊢
  have hb4 : Blk w2 g 3 (iv (ins xs i vs j) ++ cs.drop T) := by
    rw [Nat.mul_one, TD.out, List.take_left' (by rw [iv_len, HL3.out]), ← List.drop_drop, List.drop_left' (by rw [iv_len, HL3.out]), List.drop_drop, HT.out, ← iv_append] at hb3
    exact hb3
  have ho : Only g (g + 1) W0 w2 := ho1.trans ((Only.refl _ _ _).drew.trans ho3)
  clear hb3 ho3 hsee HB2 ho1
  have hlen : (ins xs i vs j).length = T := by rw [ins_len HX.out HV.out (by omega) (by omega), HT.out]
  have HLN := hide hlen
  have hcd : cs.drop T = iv (xs.drop T) ++ post := by rw [HCS.out, List.drop_append_of_le_length (by rw [iv_len, HX.out]; omega), ← iv_drop]
  rw [hcd] at hb4
  clear hcd hlen
  have hpl : n + post.length = c := by have := HL.out; rw [List.length_append, iv_len, HX.out] at this; omega
  rcases Nat.lt_or_ge T n with hlt | hge
  · have q7 : ∀ W, (Instr.slice 22 (.slice (some ⟨g, 0, none⟩) n c) (some (.int .i64 (T : Int))) none none).run Try.prog W = .ok (.slice (some ⟨g, T, none⟩) (n - T) (c - T)) W := fun W => by
      rw [run_slice_lo (P := Try.prog) W 22 3 i0 1 Try.underlying22 hi0 hz1 (some ⟨g, 0, none⟩) n c .i64 T (by omega), cutA_some _ _ _ _ _ (by omega), Nat.zero_add, Nat.mul_one]
    go_wp2_with (with_reducible refine halt_clear ?_)
    refine ⟨wpList_clear_blk w2 rfl _ _ rfl 3 i0 _ 1 Try.underlying22 hi0 hz0 rfl (by intro u hu; simp [Value.cells] at hu; subst hu; rfl) (by omega) g T (n - T) (c - T) _ hb4 ?_ (by omega) rfl ?_⟩
    · rw [List.length_append, iv_len, HLN.out, List.length_append, iv_len, List.length_drop, HX.out]; omega
    intro w3 hb5 ho5 hs5
    clear q7
    go_wp2_with fail
    go_ret
    have ho6 : Only g (g + 1) W0 w3 := ho.trans ho5
    have hbl : Below lo w w3 := b0.trans (ho6.below hlg (by omega))
    rw [zeroInts, List.take_left' (by rw [iv_len, HLN.out]), show T + (n - T) * 1 = T + (n - T) by omega, ← List.drop_drop, List.drop_left' (by rw [iv_len, HLN.out]), List.drop_left' (by rw [iv_len, List.length_drop, HX.out]), show n - T = j - (i + m) by have := HT.out; omega] at hb5
    have hgg : g < w3.heap.size := hb5.lt
    have hTT := HT.out
    refine ⟨some ⟨g, 0, none⟩, c, rfl, ?_, hbl, fun _ => ?_⟩
    · rw [List.append_assoc] at hb5
      refine Row.of_blk hb5 ?_ ?_ (by omega) (by unfold maxLen; omega) hlg hgg (Nat.le_refl _)
      · rw [List.length_append, iv_len, HLN.out, List.length_append, iv_len, List.length_replicate]; omega
      · rw [iv_len, HLN.out]; omega
    · rw [← iv_append] at hb5
      refine Row.of_blk hb5 ?_ ?_ (by omega) (by unfold maxLen; omega) hlg hgg (Nat.le_refl _)
      · rw [List.length_append, iv_len, List.length_append, HLN.out, List.length_replicate]; omega
      · rw [iv_len, List.length_append, HLN.out, List.length_replicate]; omega
  · have q7 : ∀ W, (Instr.slice 22 (.slice (some ⟨g, 0, none⟩) n c) (some (.int .i64 (T : Int))) none none).run Try.prog W = .ok (.slice (cutA (some ⟨g, 0, none⟩) c T 1) 0 (c - T)) W := fun W => by
      rw [run_slice_lo (P := Try.prog) W 22 3 i0 1 Try.underlying22 hi0 hz1 (some ⟨g, 0, none⟩) n c .i64 T (by omega), show n - T = 0 by omega]
    go_wp2_with (with_reducible refine halt_clear ?_)
    refine ⟨wpList_clear_empty w2 rfl _ _ rfl 3 Try.underlying22 _ _ rfl ?_⟩
    clear q7
    go_wp2_with fail
    go_ret
    have hbl : Below lo w w2 := b0.trans (ho.below hlg (by omega))
    have hgg : g < w2.heap.size := hb4.lt
    have hTT := HT.out
    refine ⟨some ⟨g, 0, none⟩, c, rfl, Row.of_blk hb4 ?_ ?_ (by omega) (by unfold maxLen; omega) hlg hgg (Nat.le_refl _), hbl, fun h => by omega⟩
    · rw [List.length_append, iv_len, HLN.out, List.length_append, iv_len, List.length_drop, HX.out]; omega
    · rw [iv_len, HLN.out]; omega

set_option maxHeartbeats 2000000 in
set_option maxRecDepth 100000 in
theorem Replace_mid_more (A : Option Addr) (lo hi n c i j T : Nat) (xs : List Int) (B : Option Addr) (m d : Nat) (vs : List Int) (w : World) (hr : Row w lo hi 3 1 A n c (iv xs)) (hv : Sees w B m 1 (iv vs)) (hB : 0 < m → ∀ ad, B = some ad → ad.block < lo)
    (hT : i + m + (n - j) = T) (hij : i < j) (hj : j < n) (him : j < i + m) (htot : T ≤ c) (hn : T ≤ 17592186044416) (hn2 : n ≤ 17592186044416) (hlo : lo ≤ w.heap.size) :
    Calls Try.prog 17 #[.slice A n c, .int .i64 i, .int .i64 j, .slice B m d] w fun e w' =>
      ∃ A' c', e = .returned (.slice A' T c') ∧ Row w' lo w'.heap.size 3 1 A' T c' (iv (ins xs i vs j)) ∧ Below lo w w' ∧ Rest w' lo A n c i j m (ins xs i vs j) := by
  obtain ⟨i0, hi0, hz0, hz1, hz2⟩ := info_parts intInfo
  have HX := hide hr.sees.ilen
  have HV := hide hv.ilen
  have hcap := hr.cap
  have hnc := hcap.1
  have hcm := hcap.2
  unfold maxLen at hcm
  clear hcap
  have q1 := fun W => run_slice_mid (P := Try.prog) W 22 3 i0 1 Try.underlying22 hi0 hz1 A n c .i64 .i64 i j (by omega) (by omega)
  have q2 := fun W => run_slice_hi (P := Try.prog) W 22 3 i0 Try.underlying22 hi0 A n c .i64 i (by omega)
  have q3 := fun W => run_slice_lo (P := Try.prog) W 22 3 i0 1 Try.underlying22 hi0 hz1 A n c .i64 j (by omega)
  have e1 : ((i : Int) == (j : Int)) = false := by simp; omega
  have e2 : ((j : Int) == (n : Int)) = false := by simp; omega
  obtain ⟨g, post, hA, hlg, hhi, hb, hl⟩ : ∃ g post, A = some ⟨g, 0, none⟩ ∧ lo ≤ g ∧ g < hi ∧ Blk w g 3 (iv xs ++ post) ∧ (iv xs ++ post).length = c * 1 := by
    obtain ⟨_, h, _, _⟩ := hr.form (by omega)
    exact hr.block h
  subst hA
  have hne : 0 < m → ∀ ad, B = some ad → ad.block ≠ g := fun h ad ha => by have := hB h ad ha; omega
  have HNE := hide hne
  have HL := hide hl
  have HR := hide hr
  have HB := hide hB
  have l1 : i + m ≤ T := by omega
  have l2 : T - i = m + (n - j) := by omega
  have L2 := hide l2
  have HT := hide hT
  clear hl hr hB hne hT l2
  go_enter Try.func17, Try.ntmps17
  go_wp2_with fail
  have hw1 : IntKind.i64.wrap ((i : Int) + (m : Int)) = (i : Int) + (m : Int) := by rw [IntKind.wrap_i64]; omega
  have hw2 : IntKind.i64.wrap ((i : Int) + (m : Int) + ((n - j : Nat) : Int)) = (T : Int) := by have := HT.out; rw [IntKind.wrap_i64]; omega
  go_quiet (fail)
  clear hw2 e1 e2
  have b0 : Below lo w (w.drewN nq) := below_drewN (Below.refl _ _) nq
  have hb0 := hb.drewN nq
  have hv0 := hv.drewN nq
  have hr0 := HR.out.sees.drewN nq
  have hz : (w.drewN nq).heap.size = w.heap.size := rfl
  have hgs : g < w.heap.size := hb.lt
  clear hb hv
  generalize w.drewN nq = W0 at b0 hb0 hv0 hr0 hz ⊢
  have e3 : decide ((c : Int) < (T : Int)) = false := by simp; omega
  have e4 : decide ((i : Int) + (m : Int) ≤ (j : Int)) = false := by simp; omega
  have q4 : ∀ W, (Instr.slice 22 (.slice (some ⟨g, 0, none⟩) n c) none (some (.int .i64 (T : Int))) none).run Try.prog W = .ok (.slice (some ⟨g, 0, none⟩) T c) W := fun W =>
    run_slice_hi (P := Try.prog) W 22 3 i0 Try.underlying22 hi0 (some ⟨g, 0, none⟩) n c .i64 T (by omega)
  have q5 : ∀ W, (Instr.slice 22 (.slice (some ⟨g, 0, none⟩) T c) (some (.int .i64 (i : Int))) none none).run Try.prog W = .ok (.slice (some ⟨g, i, none⟩) (T - i) (c - i)) W := fun W => by
    rw [run_slice_lo (P := Try.prog) W 22 3 i0 1 Try.underlying22 hi0 hz1 (some ⟨g, 0, none⟩) T c .i64 i (by omega), cutA_some _ _ _ _ _ (by omega), Nat.zero_add, Nat.mul_one]
  have q6 : ∀ W, (Instr.slice 22 (.slice (some ⟨g, 0, none⟩) T c) (some (.int .i64 ((i : Int) + (m : Int)))) none none).run Try.prog W = .ok (.slice (some ⟨g, i + m, none⟩) (n - j) (c - (i + m))) W := fun W => by
    rw [show (i : Int) + (m : Int) = ((i + m : Nat) : Int) by omega, run_slice_lo (P := Try.prog) W 22 3 i0 1 Try.underlying22 hi0 hz1 (some ⟨g, 0, none⟩) T c .i64 (i + m) (by omega), cutA_some _ _ _ _ _ (by have := L2.out; omega), Nat.zero_add, Nat.mul_one, show T - (i + m) = n - j by have := L2.out; omega]
  have hlx : (xs.take i).length = i := by rw [List.length_take, HX.out]; omega
  have hlt3 : (xs.take i ++ vs).length = i + m := by rw [List.length_append, hlx, HV.out]
  have HLX := hide hlx
  have HL3 := hide hlt3
  obtain ⟨cs, hcs⟩ : ∃ cs, cs = iv xs ++ post := ⟨_, rfl⟩
  have HCS := hide hcs
  have hcl : cs.length = c := by rw [hcs, HL.out, Nat.mul_one]
  have HCL := hide hcl
  rw [← hcs] at hb0
  have HTI : Hid (cs.take i = iv (xs.take i)) := by show _ = _; rw [hcs, List.take_append_of_le_length (by rw [iv_len, HX.out]; omega), iv_take]
  have TV : Hid ((iv vs).take m = iv vs) := List.take_of_length_le (by rw [iv_len, HV.out]; exact Nat.le_refl _)
  have TD : Hid ((iv (xs.drop j)).take (n - j) = iv (xs.drop j)) := List.take_of_length_le (by rw [iv_len, List.length_drop, HX.out]; exact Nat.le_refl _)
  clear hlx hlt3 hcs hcl
  have hov := overlaps_a W0 B m d _ hv0 HNE.out hb0 (i + m) (n - j) (c - (i + m))
  go_wp2_with (simp only [hov])
  clear hov
  go_still_tail 9, (by kernel_rfl)
  clear q1 q2 q3 q4 q6
  change wpList _ _ _ _ _ W0.drew
  have hsee : Sees W0.drew (cutA (some ⟨g, 0, none⟩) c j 1) (n - j) 1 (iv (xs.drop j)) := by
    have h1 := (hr0.cutA (k := j) (m := n - j) (c := c) (by omega) hnc).drew
    rw [Nat.mul_one, Nat.mul_one, ← iv_drop, ← iv_take, List.take_of_length_le (by rw [List.length_drop, HX.out]; exact Nat.le_refl _)] at h1
    exact h1
  refine wpList_copy_blk2 W0.drew rfl _ _ _ rfl 3 i0 1 Try.underlying22 hi0 hz1 g (i + m) (n - j) (c - (i + m)) _ hb0.drew (by rw [HCL.out]; have := L2.out; omega) rfl _ (n - j) (c - j) (iv (xs.drop j)) rfl hsee (fun u hu => iv_one _ u (List.mem_of_mem_take hu)) ?_
  intro w1 hb1 ho1 hs1
  rw [Nat.min_self] at hb1 ⊢
  rw [Nat.mul_one, TD.out, HT.out] at hb1
  have hv1 : Sees w1 B m 1 (iv vs) := by
    refine hv0.drew.keep (by rw [hs1]; exact Nat.le_refl _) fun ad ha => ho1.block _ ?_ ?_
    · have := HB.out (by omega) ad ha
      simp
      omega
    · have := HNE.out (by omega) ad ha
      omega
  clear hsee
  go_wp2_with (with_reducible refine halt_copy ?_)
  refine ⟨wpList_copy_blk2 w1 rfl _ _ _ rfl 3 i0 1 Try.underlying22 hi0 hz1 g i (T - i) (c - i) _ hb1 (by rw [List.length_append, List.length_append, List.length_take, List.length_drop, iv_len, List.length_drop, HCL.out, HX.out]; have := L2.out; omega) rfl B m d _ rfl hv1 (fun u hu => iv_one _ u (List.mem_of_mem_take hu)) ?_
  ⟩
  intro w2 hb2 ho2 hs2
  rw [show min m (T - i) = m by omega] at hb2 ⊢
  have hlm : (cs.take (i + m)).length = i + m := by rw [List.length_take, HCL.out]; omega
  have hb3 : Blk w2 g 3 (iv (ins xs i vs j) ++ cs.drop T) := by
    have t2 : (cs.take (i + m) ++ iv (xs.drop j) ++ cs.drop T).take i = iv (xs.take i) := by
      rw [List.append_assoc, List.take_append_of_le_length (by rw [hlm]; omega), List.take_take, show min i (i + m) = i by omega, HTI.out]
    have t3 : (cs.take (i + m) ++ iv (xs.drop j) ++ cs.drop T).drop (i + m) = iv (xs.drop j) ++ cs.drop T := by
      rw [List.append_assoc, List.drop_left' hlm]
    rw [Nat.mul_one, TV.out, t2, t3, ← List.append_assoc, ← iv_append, ← iv_append] at hb2
    exact hb2
  have ho : Only g (g + 1) W0 w2 := ((Only.refl _ _ W0).drew.trans ho1).trans ho2
  have hbl : Below lo w w2 := b0.trans (ho.below hlg (by omega))
  clear hb2 hb1 q5 hv1
  go_wp2_with fail
  go_ret
  have hTT := HT.out
  have hlen : (ins xs i vs j).length = T := by rw [ins_len HX.out HV.out (by omega) (by omega), HT.out]
  refine ⟨_, c, rfl, Row.of_blk hb3 ?_ ?_ htot (by unfold maxLen; omega) hlg hb3.lt (Nat.le_refl _), hbl, fun h => by omega⟩
  · rw [List.length_append, iv_len, hlen, List.length_drop, HCL.out]; omega
  · rw [iv_len, hlen]; omega
end Go.Proofs.Ytnbgopagjahkpaa
