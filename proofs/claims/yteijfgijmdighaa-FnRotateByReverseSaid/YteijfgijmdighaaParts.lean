/-
  Contracts: parts of a list reversed: ReverseParts, its reference, the ends of a part.
-/
import Derived.Test.YteijfgijmdighaaPartBase
import Derived.Test.YteijfgijmdighaaPairs
import Derived.Test.YteijfgijmdighaaReverse
import Derived.Test.YteijfgijmdighaaMem
namespace Go.Proofs.Yteijfgijmdighaa
open Go.RowKit
set_option linter.unusedVariables false

theorem Reverse_part (A : Option Addr) (lo hi n c i j : Nat) (xs : List Int) (w : World) (hr : Row w lo hi 3 1 A n c (iv xs)) (hij : i ≤ j) (hj : j ≤ n) (hn : n ≤ 70368744177664) :
    Calls Try.prog 48 #[.slice (cutA A c i 1) (j - i) (c - i)] w fun e w' =>
      e = .returned (.tuple #[]) ∧ Row w' lo hi 3 1 A n c (iv (revPart i j xs)) ∧ Only lo hi w w' := by
  have hx := hr.sees.ilen
  have hcap := hr.cap
  rcases Nat.lt_or_ge i j with hlt | hge
  · obtain ⟨g, post, hA, hlo, hhi, hb, hl⟩ : ∃ g post, A = some ⟨g, 0, none⟩ ∧ lo ≤ g ∧ g < hi ∧ Blk w g 3 (iv xs ++ post) ∧ (iv xs ++ post).length = c * 1 := by
      obtain ⟨_, h, _, _⟩ := hr.form (by omega)
      exact hr.block h
    subst hA
    rw [cutA_some _ _ _ _ _ (by omega), Nat.zero_add, Nat.mul_one]
    have e4 : xs = xs.take i ++ (xs.drop i).take (j - i) ++ xs.drop j := by
      have e5 : xs.drop j = (xs.drop i).drop (j - i) := by rw [List.drop_drop, show i + (j - i) = j by omega]
      rw [e5, List.append_assoc, List.take_append_drop, List.take_append_drop]
    have hb2 : Blk w g 3 (iv (xs.take i) ++ iv ((xs.drop i).take (j - i)) ++ (iv (xs.drop j) ++ post)) := by
      rw [← List.append_assoc, ← iv_append, ← iv_append, ← e4]
      exact hb
    refine (Reverse_blk g i (j - i) (c - i) 3 _ _ _ w hb2 (by rw [iv_len, List.length_take]; omega) (by rw [List.length_take, List.length_drop]; omega) (by omega)).mono ?_
    rintro e w' ⟨rfl, hb', ho, hs⟩
    refine ⟨rfl, ?_, ⟨ho.os, ho.tape, ho.output, ho.size, fun k hk h => ho.block k hk (by omega)⟩⟩
    rw [← List.append_assoc, ← iv_append, ← iv_append] at hb'
    change Blk w' g 3 (iv (revPart i j xs) ++ post) at hb'
    have hrl := revPart_len i j xs hij (by omega)
    refine Row.of_blk hb' ?_ ?_ hcap.1 hcap.2 hlo hhi (Nat.le_trans hr.2.2 ho.size)
    · rw [List.length_append, iv_len] at hl ⊢
      omega
    · rw [iv_len]
      omega
  · obtain rfl : i = j := by omega
    rw [Nat.sub_self]
    refine (Reverse_none _ _ w).mono ?_
    rintro e w' ⟨rfl, rfl⟩
    refine ⟨rfl, ?_, Only.refl _ _ _⟩
    have e5 : revPart i i xs = xs := by simp [revPart]
    rw [e5]
    exact hr

set_option maxHeartbeats 400000 in
theorem round_any (a : Int) (n : Nat) (w : World) (hn : n ≤ 70368744177664) :
    Calls Try.prog 49 #[.int .i64 a, .int .i64 n] w fun e w' => e = .returned (.int .i64 ((rnd a n : Nat) : Int)) ∧ w' = w := by
  have hb := rnd_bd a n
  have l1 := hb.1
  have l2 := hb.2
  have l3 := rnd_le a n
  clear hb
  by_cases h : a.tmod ((n : Int) + 1) < 0
  · have H := hide (rnd_neg h)
    generalize hr : a.tmod ((n : Int) + 1) = r at *
    go_enter Try.func49, Try.ntmps49
    go_wp2
    go_ret
    rw [← H.out]
    exact ⟨rfl, rfl⟩
  · have H := hide (rnd_pos (a := a) (n := n) (by omega))
    generalize hr : a.tmod ((n : Int) + 1) = r at *
    go_enter Try.func49, Try.ntmps49
    go_wp2
    go_ret
    rw [← H.out]
    exact ⟨rfl, rfl⟩

set_option maxHeartbeats 1000000 in
theorem ends_any (f t : Int) (n : Nat) (w : World) (hn : n ≤ 70368744177664) :
    Calls Try.prog 51 #[.agg #[.int .i64 f, .int .i64 t], .int .i64 n] w fun e w' =>
      e = .returned (.tuple #[.int .i64 ((lowEnd (f, t) n : Nat) : Int), .int .i64 ((highEnd (f, t) n : Nat) : Int)]) ∧ Below w.heap.size w w' := by
  have hb := rnd_bd f n
  have l1 := hb.1
  have l2 := hb.2
  have l3 := rnd_le f n
  have hb2 := rnd_bd t n
  have m1 := hb2.1
  have m2 := hb2.2
  have m3 := rnd_le t n
  have LE : Hid (lowEnd (f, t) n = min (rnd f n) (rnd t n)) := rfl
  have HE : Hid (highEnd (f, t) n = max (rnd f n) (rnd t n)) := rfl
  have e0 : ((n : Int) + 1 == 0) = false := by simp; omega
  clear hb hb2
  have core : ∀ (r s : Int) (x y : Nat), f.tmod ((n : Int) + 1) = r → t.tmod ((n : Int) + 1) = s → (r < 0 ∧ r + ((n : Int) + 1) = (x : Int) ∨ 0 ≤ r ∧ r = (x : Int)) → (s < 0 ∧ s + ((n : Int) + 1) = (y : Int) ∨ 0 ≤ s ∧ s = (y : Int)) → x ≤ n → y ≤ n →
      Calls Try.prog 51 #[.agg #[.int .i64 f, .int .i64 t], .int .i64 n] w fun e w' =>
        e = .returned (.tuple #[.int .i64 ((min x y : Nat) : Int), .int .i64 ((max x y : Nat) : Int)]) ∧ Below w.heap.size w w' := by
    intro r s x y hr hs hx hy lx ly
    rw [hr] at l1 l2
    rw [hs] at m1 m2
    clear l3 m3 LE HE
    have k1 : IntKind.i64.wrap ((n : Int) + 1) = (n : Int) + 1 := IntWalk.i64_in _ (by omega)
    have k2 : IntKind.i64.wrap r = r := IntWalk.i64_in _ (by omega)
    have k3 : IntKind.i64.wrap s = s := IntWalk.i64_in _ (by omega)
    have hbel : ∀ o : Obj, Below w.heap.size w (w.alloc o) := fun o => (Below.refl _ _).alloc (Nat.le_refl _) o
    have HB := hide hbel
    clear hbel
    rcases hx with ⟨h1, hx⟩ | ⟨h1, hx⟩ <;> rcases hy with ⟨h2, hy⟩ | ⟨h2, hy⟩ <;> rcases Nat.lt_or_ge y x with h3 | h3
    · have h4 : s + ((n : Int) + 1) < r + ((n : Int) + 1) := by omega
      have e1 : ((min x y : Nat) : Int) = s + ((n : Int) + 1) := by omega
      have e2 : ((max x y : Nat) : Int) = r + ((n : Int) + 1) := by omega
      rw [e1, e2]
      clear hx hy e1 e2 h3 lx ly
      go_enter Try.func51, Try.ntmps51
      go_wp2_with fail
      go_quiet (fail)
      clear k1 k2 k3 hr hs
      go_wp2_with fail
      go_ret2
      exact ⟨rfl, below_drewN (HB.out _) _⟩
    · have h4 : ¬ s + ((n : Int) + 1) < r + ((n : Int) + 1) := by omega
      have e1 : ((min x y : Nat) : Int) = r + ((n : Int) + 1) := by omega
      have e2 : ((max x y : Nat) : Int) = s + ((n : Int) + 1) := by omega
      rw [e1, e2]
      clear hx hy e1 e2 h3 lx ly
      go_enter Try.func51, Try.ntmps51
      go_wp2_with fail
      go_quiet (fail)
      clear k1 k2 k3 hr hs
      go_wp2_with fail
      go_ret2
      exact ⟨rfl, below_drewN (HB.out _) _⟩
    · have h4 : s < r + ((n : Int) + 1) := by omega
      have e1 : ((min x y : Nat) : Int) = s := by omega
      have e2 : ((max x y : Nat) : Int) = r + ((n : Int) + 1) := by omega
      rw [e1, e2]
      clear hx hy e1 e2 h3 lx ly
      go_enter Try.func51, Try.ntmps51
      go_wp2_with fail
      go_quiet (fail)
      clear k1 k2 k3 hr hs
      go_wp2_with fail
      go_ret2
      exact ⟨rfl, below_drewN (HB.out _) _⟩
    · have h4 : ¬ s < r + ((n : Int) + 1) := by omega
      have e1 : ((min x y : Nat) : Int) = r + ((n : Int) + 1) := by omega
      have e2 : ((max x y : Nat) : Int) = s := by omega
      rw [e1, e2]
      clear hx hy e1 e2 h3 lx ly
      go_enter Try.func51, Try.ntmps51
      go_wp2_with fail
      go_quiet (fail)
      clear k1 k2 k3 hr hs
      go_wp2_with fail
      go_ret2
      exact ⟨rfl, below_drewN (HB.out _) _⟩
    · have h4 : s + ((n : Int) + 1) < r := by omega
      have e1 : ((min x y : Nat) : Int) = s + ((n : Int) + 1) := by omega
      have e2 : ((max x y : Nat) : Int) = r := by omega
      rw [e1, e2]
      clear hx hy e1 e2 h3 lx ly
      go_enter Try.func51, Try.ntmps51
      go_wp2_with fail
      go_quiet (fail)
      clear k1 k2 k3 hr hs
      go_wp2_with fail
      go_ret2
      exact ⟨rfl, below_drewN (HB.out _) _⟩
    · have h4 : ¬ s + ((n : Int) + 1) < r := by omega
      have e1 : ((min x y : Nat) : Int) = r := by omega
      have e2 : ((max x y : Nat) : Int) = s + ((n : Int) + 1) := by omega
      rw [e1, e2]
      clear hx hy e1 e2 h3 lx ly
      go_enter Try.func51, Try.ntmps51
      go_wp2_with fail
      go_quiet (fail)
      clear k1 k2 k3 hr hs
      go_wp2_with fail
      go_ret2
      exact ⟨rfl, below_drewN (HB.out _) _⟩
    · have h4 : s < r := by omega
      have e1 : ((min x y : Nat) : Int) = s := by omega
      have e2 : ((max x y : Nat) : Int) = r := by omega
      rw [e1, e2]
      clear hx hy e1 e2 h3 lx ly
      go_enter Try.func51, Try.ntmps51
      go_wp2_with fail
      go_quiet (fail)
      clear k1 k2 k3 hr hs
      go_wp2_with fail
      go_ret2
      exact ⟨rfl, below_drewN (HB.out _) _⟩
    · have h4 : ¬ s < r := by omega
      have e1 : ((min x y : Nat) : Int) = r := by omega
      have e2 : ((max x y : Nat) : Int) = s := by omega
      rw [e1, e2]
      clear hx hy e1 e2 h3 lx ly
      go_enter Try.func51, Try.ntmps51
      go_wp2_with fail
      go_quiet (fail)
      clear k1 k2 k3 hr hs
      go_wp2_with fail
      go_ret2
      exact ⟨rfl, below_drewN (HB.out _) _⟩
  rw [LE.out, HE.out]
  refine core _ _ (rnd f n) (rnd t n) rfl rfl ?_ ?_ l3 m3
  · rcases Int.lt_or_le (f.tmod ((n : Int) + 1)) 0 with h | h
    · exact .inl ⟨h, rnd_neg h⟩
    · exact .inr ⟨h, rnd_pos h⟩
  · rcases Int.lt_or_le (t.tmod ((n : Int) + 1)) 0 with h | h
    · exact .inl ⟨h, rnd_neg h⟩
    · exact .inr ⟨h, rnd_pos h⟩

set_option maxHeartbeats 1000000 in
theorem ReverseParts_any (A B : Option Addr) (n m c d : Nat) (xs : List Int) (ps : List (Int × Int)) (w : World) (hs : Sees w A n 1 (iv xs)) (ht : Sees w B m 2 (pv ps)) (hn : n ≤ 17592186044416) (hm : m ≤ 70368744177664) :
    Calls Try.prog 36 #[.slice A n c, .slice B m d] w fun e w' =>
      ∃ A' c', e = .returned (.slice A' n c') ∧ Row w' w.heap.size w'.heap.size 3 1 A' n c' (iv (revAll ps xs)) ∧ Below w.heap.size w w' := by
  obtain ⟨i0, hi0, hz0, hz1, hz2⟩ := info_parts intInfo
  have HX := hide hs.ilen
  have HP := hide ht.plen
  go_enter Try.func36, Try.ntmps36
  go_wp2_with fail
  refine (numbers_any A n c xs _ hs hn).mono ?_
  rintro e w1 ⟨A1, c1, rfl, r1, b1⟩
  have hcap := r1.cap
  have hnc := hcap.1
  have hcm := hcap.2
  unfold maxLen at hcm
  clear hcap
  go_wp2_with fail
  go_loopw [14] (fun i wr => ∃ k : Nat, k ≤ m ∧ i = .int .i64 k ∧ Row wr w.heap.size w1.heap.size 3 1 A1 n c1 (iv (revAll (ps.take k) xs)) ∧ Below w.heap.size w wr) (fun i _ => m - (intOf i).toNat)
  case atStart => exact ⟨0, Nat.zero_le _, rfl, by simpa [revAll] using r1, b1⟩
  case round =>
    clear r1
    obtain ⟨k, hk, rfl, r, hb⟩ := hrel
    by_cases hlt : k < m
    · obtain ⟨b, off, f, t, rfl, hbl, HXk, cx, cy⟩ := (ht.below hb).pair hlt
      have HB := hide hb
      have hsz := hb.size
      have HR := hide r
      have hr2 := r.2.2
      clear hb r
      go_wp2_with fail
      refine (ends_any f t n _ (by omega)).mono ?_
      rintro e w2 ⟨rfl, d2⟩
      have hle := ends_le (f, t) n
      obtain ⟨i, hi⟩ : ∃ i, lowEnd (f, t) n = i := ⟨_, rfl⟩
      obtain ⟨j, hj⟩ : ∃ j, highEnd (f, t) n = j := ⟨_, rfl⟩
      rw [hi, hj] at hle ⊢
      have hij := hle.1
      have hjn := hle.2
      have HI := hide hi
      have HJ := hide hj
      clear hi hj hle
      have r2 := (HR.out.alloc (.cells #[.int .i64 f, .int .i64 t] 48)).below d2 (by simp; omega)
      have hb2 : Below w.heap.size w w2 := (HB.out.alloc hsz _).trans (d2.mono (by simp; omega))
      have s2 : wr.heap.size ≤ w2.heap.size := by have := d2.size; simp at this; omega
      clear d2
      have q1 := fun W => run_slice_mid (P := Try.prog) W 22 3 i0 1 Try.underlying22 hi0 hz1 A1 n c1 .i64 .i64 i j hij (by omega)
      go_wp2_with fail
      clear q1
      refine (Reverse_part A1 _ _ n c1 i j _ _ r2 hij hjn (by omega)).mono ?_
      rintro e w3 ⟨rfl, r3, o3⟩
      have hb3 : Below w.heap.size w w3 := hb2.trans (o3.below (Nat.le_refl _) hb2.size)
      clear o3 r2
      go_wp2_with fail
      go_roundw
      case rel =>
        refine ⟨k + 1, by omega, by go_num, ?_, hb3⟩
        rw [revAll_snoc ps k (f, t) xs HXk.out, revOne, revAll_len, HX.out, HI.out, HJ.out]
        exact r3
      case measure => simp [intOf]; omega
    · obtain rfl : k = m := by omega
      go_wp2_with fail
      go_ret
      rw [List.take_of_length_le (by rw [HP.out]; exact Nat.le_refl _)] at r
      exact ⟨A1, c1, rfl, r.more (Nat.le_refl _) r.2.2 (Nat.le_refl _), hb⟩

set_option maxHeartbeats 2000000 in
set_option maxRecDepth 100000 in
theorem specReverseParts_any (A B : Option Addr) (n m c d : Nat) (xs : List Int) (ps : List (Int × Int)) (w : World) (hs : Sees w A n 1 (iv xs)) (ht : Sees w B m 2 (pv ps)) (hn : n ≤ 17592186044416) (hm : m ≤ 70368744177664) :
    Calls Try.prog 34 #[.slice A n c, .slice B m d] w fun e w' =>
      ∃ A' c', e = .returned (.slice A' n c') ∧ Row w' w.heap.size w'.heap.size 3 1 A' n c' (iv (revAll ps xs)) ∧ Below w.heap.size w w' := by
  obtain ⟨i0, hi0, hz0, hz1, hz2⟩ := info_parts intInfo
  have HX := hide hs.ilen
  have HP := hide ht.plen
  go_enter Try.func34, Try.ntmps34
  go_wp2_with (at_builtin; refine halt_here ?_)
  refine ⟨wpList_append_sees w rfl _ _ _ rfl w.heap.size w.heap.size 3 i0 _ 1 8 Try.underlying22 hi0 hz0 hz1 hz2 rfl (by omega) none 0 0 [] rfl (Row.none_ w _ _ _ _ (Nat.le_refl _)) A n c (iv xs) rfl hs (iv_one _) (by unfold maxLen; omega) (by omega) (Nat.le_refl _) ?_⟩
  intro A1 c1 w1 r1 o1 _
  rw [Nat.zero_add, List.nil_append] at r1
  rw [Nat.zero_add]
  have b1 := o1.below (Nat.le_refl _) (Nat.le_refl _)
  clear o1
  go_wp2_with fail
  go_loopw [5, 15] (fun v i wr => ∃ (k : Nat) (E : Option Addr) (g : Nat), k ≤ m ∧ i = .int .i64 k ∧ v = .slice E n g ∧ Row wr w.heap.size wr.heap.size 3 1 E n g (iv (revAll (ps.take k) xs)) ∧ Below w.heap.size w wr) (fun _ i _ => m - (intOf i).toNat)
  case atStart => exact ⟨0, A1, c1, Nat.zero_le _, rfl, rfl, by simpa [revAll] using r1, b1⟩
  case round =>
    clear r1
    obtain ⟨k, E, g, hk, rfl, rfl, r, hb⟩ := hrel
    by_cases hlt : k < m
    · obtain ⟨b, off, f, t, rfl, hbl, HXk, cx, cy⟩ := (ht.below hb).pair hlt
      have hcap := r.cap
      have hng := hcap.1
      have hgm := hcap.2
      unfold maxLen at hgm
      clear hcap
      have HB := hide hb
      have hsz := hb.size
      have HR := hide r
      clear hb r
      go_wp2_with fail
      go_quiet ((go_at_call 49; exact Calls.quiet_of_same (round_any _ n _ (by omega))))
      have hle := ends_le (f, t) n
      have LE : lowEnd (f, t) n = min (rnd f n) (rnd t n) := rfl
      have HE : highEnd (f, t) n = max (rnd f n) (rnd t n) := rfl
      have hf := rnd_le f n
      have hg := rnd_le t n
      obtain ⟨p, hp⟩ : ∃ p, rnd f n = p := ⟨_, rfl⟩
      obtain ⟨q, hq⟩ : ∃ q, rnd t n = q := ⟨_, rfl⟩
      rw [hp, hq] at LE HE ⊢
      rw [hp] at hf
      rw [hq] at hg
      clear hp hq
      have r2 := (HR.out.alloc (.cells #[.int .i64 f, .int .i64 t] 48)).drewN nq
      have b2 : Below w.heap.size w ((wr.alloc (.cells #[.int .i64 f, .int .i64 t] 48)).drewN nq) := below_drewN (HB.out.alloc hsz _) nq
      generalize hW : ((wr.alloc (.cells #[.int .i64 f, .int .i64 t] 48)).drewN nq) = W at r2 b2 ⊢
      have hWs : wr.heap.size ≤ W.heap.size := by rw [← hW]; simp
      clear hW cx cy
      have tail : ∀ (i j : Nat), lowEnd (f, t) n = i → highEnd (f, t) n = j → i ≤ j → j ≤ n →
          (∀ W2, Sees W2 E n 1 (iv (revAll (ps.take k) xs)) → Sees W2 E i 1 (iv ((revAll (ps.take k) xs).take i))) ∧
          (∀ W2, Sees W2 E n 1 (iv (revAll (ps.take k) xs)) → Sees W2 (cutA E g i 1) (j - i) 1 (iv (((revAll (ps.take k) xs).drop i).take (j - i)))) ∧
          (∀ W2, Sees W2 E n 1 (iv (revAll (ps.take k) xs)) → Sees W2 (cutA E g j 1) (n - j) 1 (iv ((revAll (ps.take k) xs).drop j))) := by
        intro i j _ _ hij hjn
        have hrl : (revAll (ps.take k) xs).length = n := by rw [revAll_len, HX.out]
        refine ⟨fun W2 h => ?_, fun W2 h => ?_, fun W2 h => ?_⟩
        · have t1 := h.cutA (k := 0) (m := i) (c := g) (by omega) hng
          rw [cutA_zero, Nat.zero_mul, List.drop_zero, Nat.mul_one, ← iv_take] at t1
          exact t1
        · have t1 := h.cutA (k := i) (m := j - i) (c := g) (by omega) hng
          rw [Nat.mul_one, Nat.mul_one, ← iv_drop, ← iv_take] at t1
          exact t1
        · have t1 := h.cutA (k := j) (m := n - j) (c := g) (by omega) hng
          rw [Nat.mul_one, Nat.mul_one, ← iv_drop, ← iv_take, List.take_of_length_le (by rw [List.length_drop, hrl]; exact Nat.le_refl _)] at t1
          exact t1
      have TL := hide tail
      clear tail
      rcases Nat.lt_or_ge q p with hqp | hqp
      · have hlow : lowEnd (f, t) n = q := by omega
        have hhigh : highEnd (f, t) n = p := by omega
        obtain ⟨V1, V2, V3⟩ := TL.out q p hlow hhigh (by omega) (by omega)
        have HL := hide hlow
        have HH := hide hhigh
        have HV1 := hide V1
        have HV2 := hide V2
        have HV3 := hide V3
        clear hlow hhigh LE HE hle TL V1 V2 V3
        have q1 := fun W => run_slice_hi (P := Try.prog) W 22 3 i0 Try.underlying22 hi0 E n g .i64 q (by omega)
        have q2 := fun W => run_slice_mid (P := Try.prog) W 22 3 i0 1 Try.underlying22 hi0 hz1 E n g .i64 .i64 q p (by omega) (by omega)
        have q3 := fun W => run_slice_lo (P := Try.prog) W 22 3 i0 1 Try.underlying22 hi0 hz1 E n g .i64 p (by omega)
        go_wp2_with (at_builtin; refine halt_here ?_)
        refine ⟨wpList_append_sees W rfl _ _ _ rfl W.heap.size W.heap.size 3 i0 _ 1 8 Try.underlying22 hi0 hz0 hz1 hz2 rfl (by omega) none 0 0 [] rfl (Row.none_ W _ _ _ _ (Nat.le_refl _)) E q g _ rfl (HV1.out W r2.sees) (iv_one _) (by unfold maxLen; omega) (by omega) (Nat.le_refl _) ?_⟩
        intro A3 c3 w3 r3 o3 _
        rw [Nat.zero_add, List.nil_append] at r3
        rw [Nat.zero_add]
        have d3 := o3.below (Nat.le_refl _) (Nat.le_refl _)
        replace r2 := r2.next ((d3.mono (Nat.le_refl _)))
        have b3 : Below w.heap.size w w3 := b2.trans (d3.mono b2.size)
        have s3 := d3.size
        clear o3 d3
        go_wp2_with fail
        refine (specReverseInts_any _ _ (g - q) _ _ (HV2.out _ r2.sees) (by omega)).mono ?_
        rintro e w4 ⟨A4, c4, rfl, r4, d4⟩
        replace r2 := r2.next d4
        replace r3 := r3.next d4
        have b4 : Below w.heap.size w w4 := b3.trans (d4.mono b3.size)
        have s4 := d4.size
        clear d4
        go_wp2_with (at_builtin; refine halt_here ?_)
        refine ⟨wpList_append_sees w4 rfl _ _ _ rfl W.heap.size w3.heap.size 3 i0 _ 1 8 Try.underlying22 hi0 hz0 hz1 hz2 rfl (by omega) A3 q c3 _ rfl r3 A4 (p - q) c4 _ rfl r4.sees (iv_one _) (by unfold maxLen; omega) (by omega) (by omega) ?_⟩
        intro A5 c5 w5 r5 o5 _
        rw [← iv_append, show q + (p - q) = p by omega] at r5
        rw [show q + (p - q) = p by omega]
        replace r2 := r2.only o5 (.inl (by omega))
        have b5 : Below w.heap.size w w5 := b4.trans (o5.below (by omega) (by omega))
        have s5 := o5.size
        clear o5 r3 r4
        go_wp2_with (at_builtin; refine halt_here ?_)
        refine ⟨wpList_append_sees w5 rfl _ _ _ rfl W.heap.size w5.heap.size 3 i0 _ 1 8 Try.underlying22 hi0 hz0 hz1 hz2 rfl (by omega) A5 p c5 _ rfl r5 _ (n - p) (g - p) _ rfl (HV3.out _ r2.sees) (iv_one _) (by unfold maxLen; omega) (by omega) (by omega) ?_⟩
        intro A6 c6 w6 r6 o6 _
        rw [← iv_append] at r6
        have b6 : Below w.heap.size w w6 := b5.trans (o6.below (by omega) (by omega))
        clear o6 r5 r2 q1 q2 q3
        rw [show p + (n - p) = n by omega] at r6 ⊢
        go_wp2_with fail
        go_roundw
        case rel =>
          refine ⟨k + 1, A6, c6, by omega, by go_num, rfl, ?_, b6⟩
          rw [revAll_snoc ps k (f, t) xs HXk.out, revOne, revAll_len, HX.out, HL.out, HH.out]
          exact r6.more (by omega) (Nat.le_refl _) (Nat.le_refl _)
        case measure => simp [intOf]; omega
      · have hlow : lowEnd (f, t) n = p := by omega
        have hhigh : highEnd (f, t) n = q := by omega
        have hnq : ¬ (q : Int) < (p : Int) := by omega
        obtain ⟨V1, V2, V3⟩ := TL.out p q hlow hhigh (by omega) (by omega)
        have HL := hide hlow
        have HH := hide hhigh
        have HV1 := hide V1
        have HV2 := hide V2
        have HV3 := hide V3
        clear hlow hhigh LE HE hle TL V1 V2 V3
        have q1 := fun W => run_slice_hi (P := Try.prog) W 22 3 i0 Try.underlying22 hi0 E n g .i64 p (by omega)
        have q2 := fun W => run_slice_mid (P := Try.prog) W 22 3 i0 1 Try.underlying22 hi0 hz1 E n g .i64 .i64 p q (by omega) (by omega)
        have q3 := fun W => run_slice_lo (P := Try.prog) W 22 3 i0 1 Try.underlying22 hi0 hz1 E n g .i64 q (by omega)
        go_wp2_with (at_builtin; refine halt_here ?_)
        refine ⟨wpList_append_sees W rfl _ _ _ rfl W.heap.size W.heap.size 3 i0 _ 1 8 Try.underlying22 hi0 hz0 hz1 hz2 rfl (by omega) none 0 0 [] rfl (Row.none_ W _ _ _ _ (Nat.le_refl _)) E p g _ rfl (HV1.out W r2.sees) (iv_one _) (by unfold maxLen; omega) (by omega) (Nat.le_refl _) ?_⟩
        intro A3 c3 w3 r3 o3 _
        rw [Nat.zero_add, List.nil_append] at r3
        rw [Nat.zero_add]
        have d3 := o3.below (Nat.le_refl _) (Nat.le_refl _)
        replace r2 := r2.next ((d3.mono (Nat.le_refl _)))
        have b3 : Below w.heap.size w w3 := b2.trans (d3.mono b2.size)
        have s3 := d3.size
        clear o3 d3
        go_wp2_with fail
        refine (specReverseInts_any _ _ (g - p) _ _ (HV2.out _ r2.sees) (by omega)).mono ?_
        rintro e w4 ⟨A4, c4, rfl, r4, d4⟩
        replace r2 := r2.next d4
        replace r3 := r3.next d4
        have b4 : Below w.heap.size w w4 := b3.trans (d4.mono b3.size)
        have s4 := d4.size
        clear d4
        go_wp2_with (at_builtin; refine halt_here ?_)
        refine ⟨wpList_append_sees w4 rfl _ _ _ rfl W.heap.size w3.heap.size 3 i0 _ 1 8 Try.underlying22 hi0 hz0 hz1 hz2 rfl (by omega) A3 p c3 _ rfl r3 A4 (q - p) c4 _ rfl r4.sees (iv_one _) (by unfold maxLen; omega) (by omega) (by omega) ?_⟩
        intro A5 c5 w5 r5 o5 _
        rw [← iv_append, show p + (q - p) = q by omega] at r5
        rw [show p + (q - p) = q by omega]
        replace r2 := r2.only o5 (.inl (by omega))
        have b5 : Below w.heap.size w w5 := b4.trans (o5.below (by omega) (by omega))
        have s5 := o5.size
        clear o5 r3 r4
        go_wp2_with (at_builtin; refine halt_here ?_)
        refine ⟨wpList_append_sees w5 rfl _ _ _ rfl W.heap.size w5.heap.size 3 i0 _ 1 8 Try.underlying22 hi0 hz0 hz1 hz2 rfl (by omega) A5 q c5 _ rfl r5 _ (n - q) (g - q) _ rfl (HV3.out _ r2.sees) (iv_one _) (by unfold maxLen; omega) (by omega) (by omega) ?_⟩
        intro A6 c6 w6 r6 o6 _
        rw [← iv_append] at r6
        have b6 : Below w.heap.size w w6 := b5.trans (o6.below (by omega) (by omega))
        clear o6 r5 r2 q1 q2 q3
        rw [show q + (n - q) = n by omega] at r6 ⊢
        go_wp2_with fail
        go_roundw
        case rel =>
          refine ⟨k + 1, A6, c6, by omega, by go_num, rfl, ?_, b6⟩
          rw [revAll_snoc ps k (f, t) xs HXk.out, revOne, revAll_len, HX.out, HL.out, HH.out]
          exact r6.more (by omega) (Nat.le_refl _) (Nat.le_refl _)
        case measure => simp [intOf]; omega
    · obtain rfl : k = m := by omega
      go_wp2_with fail
      go_ret
      rw [List.take_of_length_le (by rw [HP.out]; exact Nat.le_refl _)] at r
      exact ⟨E, g, rfl, r, hb⟩
end Go.Proofs.Yteijfgijmdighaa
