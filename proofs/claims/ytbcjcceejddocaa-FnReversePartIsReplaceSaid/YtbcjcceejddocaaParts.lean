/-
  Contracts: parts of a list reversed: ReverseParts, its reference, the ends of a part.
-/
import Derived.Test.YtbcjcceejddocaaPartBase
import Derived.Test.YtbcjcceejddocaaPairs
import Derived.Test.YtbcjcceejddocaaReverse
import Derived.Test.YtbcjcceejddocaaMem
namespace Go.Proofs.Ytbcjcceejddocaa
open Go.RowKit
set_option linter.unusedVariables false

theorem Reverse_part (A : Option Addr) (lo hi n c i j : Nat) (xs : List Int) (w : World) (hr : Row w lo hi 3 1 A n c (iv xs)) (hij : i ≤ j) (hj : j ≤ n) (hn : n ≤ 70368744177664) :
    Calls Try.prog 40 #[.slice (cutA A c i 1) (j - i) (c - i)] w fun e w' =>
      e = .returned (.tuple #[]) ∧ Row w' lo hi 3 1 A n c (iv (revPart i j xs)) ∧ Only lo hi w w' := by
  have hx := hr.sees.ilen
  have hcap := hr.cap
  rcases Nat.lt_or_ge i j with hlt | hge
  · obtain ⟨g, post, hA, hlo, hhi, hb, hl⟩ : ∃ g post, A = some ⟨g, 0, none⟩ ∧ lo ≤ g ∧ g < hi ∧ Blk w g 3 (iv xs ++ post) ∧ (iv xs ++ post).length = c * 1 := by
      obtain ⟨_, h, _, _⟩ := hr.form (by omega)
      exact hr.block h
    subst hA
    rw [cutA_some _ _ _ _ _ (by omega), Nat.zero_add, Nat.mul_one]
    have e4 : xs = xs.take i ++ (xs.drop i).take (j - i) ++ xs.drop j := by
      have e5 : xs.drop j = (xs.drop i).drop (j - i) := by rw [List.drop_drop, show i + (j - i) = j by omega]
      rw [e5, List.append_assoc, List.take_append_drop, List.take_append_drop]
    have hb2 : Blk w g 3 (iv (xs.take i) ++ iv ((xs.drop i).take (j - i)) ++ (iv (xs.drop j) ++ post)) := by
      rw [← List.append_assoc, ← iv_append, ← iv_append, ← e4]
      exact hb
    refine (Reverse_blk g i (j - i) (c - i) 3 _ _ _ w hb2 (by rw [iv_len, List.length_take]; omega) (by rw [List.length_take, List.length_drop]; omega) (by omega)).mono ?_
    rintro e w' ⟨rfl, hb', ho, hs⟩
    refine ⟨rfl, ?_, ⟨ho.os, ho.tape, ho.output, ho.size, fun k hk h => ho.block k hk (by omega)⟩⟩
    rw [← List.append_assoc, ← iv_append, ← iv_append] at hb'
    change Blk w' g 3 (iv (revPart i j xs) ++ post) at hb'
    have hrl := revPart_len i j xs hij (by omega)
    refine Row.of_blk hb' ?_ ?_ hcap.1 hcap.2 hlo hhi (Nat.le_trans hr.2.2 ho.size)
    · rw [List.length_append, iv_len] at hl ⊢
      omega
    · rw [iv_len]
      omega
  · obtain rfl : i = j := by omega
    rw [Nat.sub_self]
    refine (Reverse_none _ _ w).mono ?_
    rintro e w' ⟨rfl, rfl⟩
    refine ⟨rfl, ?_, Only.refl _ _ _⟩
    have e5 : revPart i i xs = xs := by simp [revPart]
    rw [e5]
    exact hr

set_option maxHeartbeats 1000000 in
theorem ends_any (f t : Int) (n : Nat) (w : World) (hn : n ≤ 70368744177664) :
    Calls Try.prog 41 #[.agg #[.int .i64 f, .int .i64 t], .int .i64 n] w fun e w' =>
      e = .returned (.tuple #[.int .i64 ((lowEnd (f, t) n : Nat) : Int), .int .i64 ((highEnd (f, t) n : Nat) : Int)]) ∧ Below w.heap.size w w' := by
  have hb := rnd_bd f n
  have l1 := hb.1
  have l2 := hb.2
  have l3 := rnd_le f n
  have hb2 := rnd_bd t n
  have m1 := hb2.1
  have m2 := hb2.2
  have m3 := rnd_le t n
  have LE : Hid (lowEnd (f, t) n = min (rnd f n) (rnd t n)) := rfl
  have HE : Hid (highEnd (f, t) n = max (rnd f n) (rnd t n)) := rfl
  have e0 : ((n : Int) + 1 == 0) = false := by simp; omega
  clear hb hb2
  have core : ∀ (r s : Int) (x y : Nat), f.tmod ((n : Int) + 1) = r → t.tmod ((n : Int) + 1) = s → (r < 0 ∧ r + ((n : Int) + 1) = (x : Int) ∨ 0 ≤ r ∧ r = (x : Int)) → (s < 0 ∧ s + ((n : Int) + 1) = (y : Int) ∨ 0 ≤ s ∧ s = (y : Int)) → x ≤ n → y ≤ n →
      Calls Try.prog 41 #[.agg #[.int .i64 f, .int .i64 t], .int .i64 n] w fun e w' =>
        e = .returned (.tuple #[.int .i64 ((min x y : Nat) : Int), .int .i64 ((max x y : Nat) : Int)]) ∧ Below w.heap.size w w' := by
    intro r s x y hr hs hx hy lx ly
    rw [hr] at l1 l2
    rw [hs] at m1 m2
    clear l3 m3 LE HE
    have k1 : IntKind.i64.wrap ((n : Int) + 1) = (n : Int) + 1 := IntWalk.i64_in _ (by omega)
    have k2 : IntKind.i64.wrap r = r := IntWalk.i64_in _ (by omega)
    have k3 : IntKind.i64.wrap s = s := IntWalk.i64_in _ (by omega)
    have hbel : ∀ o : Obj, Below w.heap.size w (w.alloc o) := fun o => (Below.refl _ _).alloc (Nat.le_refl _) o
    have HB := hide hbel
    clear hbel
    rcases hx with ⟨h1, hx⟩ | ⟨h1, hx⟩ <;> rcases hy with ⟨h2, hy⟩ | ⟨h2, hy⟩ <;> rcases Nat.lt_or_ge y x with h3 | h3
    · have h4 : s + ((n : Int) + 1) < r + ((n : Int) + 1) := by omega
      have e1 : ((min x y : Nat) : Int) = s + ((n : Int) + 1) := by omega
      have e2 : ((max x y : Nat) : Int) = r + ((n : Int) + 1) := by omega
      rw [e1, e2]
      clear hx hy e1 e2 h3 lx ly
      go_enter Try.func41, Try.ntmps41
      go_wp2_with fail
      go_quiet (fail)
      clear k1 k2 k3 hr hs
      go_wp2_with fail
      go_ret2
      exact ⟨rfl, below_drewN (HB.out _) _⟩
    · have h4 : ¬ s + ((n : Int) + 1) < r + ((n : Int) + 1) := by omega
      have e1 : ((min x y : Nat) : Int) = r + ((n : Int) + 1) := by omega
      have e2 : ((max x y : Nat) : Int) = s + ((n : Int) + 1) := by omega
      rw [e1, e2]
      clear hx hy e1 e2 h3 lx ly
      go_enter Try.func41, Try.ntmps41
      go_wp2_with fail
      go_quiet (fail)
      clear k1 k2 k3 hr hs
      go_wp2_with fail
      go_ret2
      exact ⟨rfl, below_drewN (HB.out _) _⟩
    · have h4 : s < r + ((n : Int) + 1) := by omega
      have e1 : ((min x y : Nat) : Int) = s := by omega
      have e2 : ((max x y : Nat) : Int) = r + ((n : Int) + 1) := by omega
      rw [e1, e2]
      clear hx hy e1 e2 h3 lx ly
      go_enter Try.func41, Try.ntmps41
      go_wp2_with fail
      go_quiet (fail)
      clear k1 k2 k3 hr hs
      go_wp2_with fail
      go_ret2
      exact ⟨rfl, below_drewN (HB.out _) _⟩
    · have h4 : ¬ s < r + ((n : Int) + 1) := by omega
      have e1 : ((min x y : Nat) : Int) = r + ((n : Int) + 1) := by omega
      have e2 : ((max x y : Nat) : Int) = s := by omega
      rw [e1, e2]
      clear hx hy e1 e2 h3 lx ly
      go_enter Try.func41, Try.ntmps41
      go_wp2_with fail
      go_quiet (fail)
      clear k1 k2 k3 hr hs
      go_wp2_with fail
      go_ret2
      exact ⟨rfl, below_drewN (HB.out _) _⟩
    · have h4 : s + ((n : Int) + 1) < r := by omega
      have e1 : ((min x y : Nat) : Int) = s + ((n : Int) + 1) := by omega
      have e2 : ((max x y : Nat) : Int) = r := by omega
      rw [e1, e2]
      clear hx hy e1 e2 h3 lx ly
      go_enter Try.func41, Try.ntmps41
      go_wp2_with fail
      go_quiet (fail)
      clear k1 k2 k3 hr hs
      go_wp2_with fail
      go_ret2
      exact ⟨rfl, below_drewN (HB.out _) _⟩
    · have h4 : ¬ s + ((n : Int) + 1) < r := by omega
      have e1 : ((min x y : Nat) : Int) = r := by omega
      have e2 : ((max x y : Nat) : Int) = s + ((n : Int) + 1) := by omega
      rw [e1, e2]
      clear hx hy e1 e2 h3 lx ly
      go_enter Try.func41, Try.ntmps41
      go_wp2_with fail
      go_quiet (fail)
      clear k1 k2 k3 hr hs
      go_wp2_with fail
      go_ret2
      exact ⟨rfl, below_drewN (HB.out _) _⟩
    · have h4 : s < r := by omega
      have e1 : ((min x y : Nat) : Int) = s := by omega
      have e2 : ((max x y : Nat) : Int) = r := by omega
      rw [e1, e2]
      clear hx hy e1 e2 h3 lx ly
      go_enter Try.func41, Try.ntmps41
      go_wp2_with fail
      go_quiet (fail)
      clear k1 k2 k3 hr hs
      go_wp2_with fail
      go_ret2
      exact ⟨rfl, below_drewN (HB.out _) _⟩
    · have h4 : ¬ s < r := by omega
      have e1 : ((min x y : Nat) : Int) = r := by omega
      have e2 : ((max x y : Nat) : Int) = s := by omega
      rw [e1, e2]
      clear hx hy e1 e2 h3 lx ly
      go_enter Try.func41, Try.ntmps41
      go_wp2_with fail
      go_quiet (fail)
      clear k1 k2 k3 hr hs
      go_wp2_with fail
      go_ret2
      exact ⟨rfl, below_drewN (HB.out _) _⟩
  rw [LE.out, HE.out]
  refine core _ _ (rnd f n) (rnd t n) rfl rfl ?_ ?_ l3 m3
  · rcases Int.lt_or_le (f.tmod ((n : Int) + 1)) 0 with h | h
    · exact .inl ⟨h, rnd_neg h⟩
    · exact .inr ⟨h, rnd_pos h⟩
  · rcases Int.lt_or_le (t.tmod ((n : Int) + 1)) 0 with h | h
    · exact .inl ⟨h, rnd_neg h⟩
    · exact .inr ⟨h, rnd_pos h⟩

set_option maxHeartbeats 1000000 in
theorem ReverseParts_any (A B : Option Addr) (n m c d : Nat) (xs : List Int) (ps : List (Int × Int)) (w : World) (hs : Sees w A n 1 (iv xs)) (ht : Sees w B m 2 (pv ps)) (hn : n ≤ 17592186044416) (hm : m ≤ 70368744177664) :
    Calls Try.prog 28 #[.slice A n c, .slice B m d] w fun e w' =>
      ∃ A' c', e = .returned (.slice A' n c') ∧ Row w' w.heap.size w'.heap.size 3 1 A' n c' (iv (revAll ps xs)) ∧ Below w.heap.size w w' := by
  obtain ⟨i0, hi0, hz0, hz1, hz2⟩ := info_parts intInfo
  have HX := hide hs.ilen
  have HP := hide ht.plen
  go_enter Try.func28, Try.ntmps28
  go_wp2_with fail
  refine (numbers_any A n c xs _ hs hn).mono ?_
  rintro e w1 ⟨A1, c1, rfl, r1, b1⟩
  have hcap := r1.cap
  have hnc := hcap.1
  have hcm := hcap.2
  unfold maxLen at hcm
  clear hcap
  go_wp2_with fail
  go_loopw [14] (fun i wr => ∃ k : Nat, k ≤ m ∧ i = .int .i64 k ∧ Row wr w.heap.size w1.heap.size 3 1 A1 n c1 (iv (revAll (ps.take k) xs)) ∧ Below w.heap.size w wr) (fun i _ => m - (intOf i).toNat)
  case atStart => exact ⟨0, Nat.zero_le _, rfl, by simpa [revAll] using r1, b1⟩
  case round =>
    clear r1
    obtain ⟨k, hk, rfl, r, hb⟩ := hrel
    by_cases hlt : k < m
    · obtain ⟨b, off, f, t, rfl, hbl, HXk, cx, cy⟩ := (ht.below hb).pair hlt
      have HB := hide hb
      have hsz := hb.size
      have HR := hide r
      have hr2 := r.2.2
      clear hb r
      go_wp2_with fail
      refine (ends_any f t n _ (by omega)).mono ?_
      rintro e w2 ⟨rfl, d2⟩
      have hle := ends_le (f, t) n
      obtain ⟨i, hi⟩ : ∃ i, lowEnd (f, t) n = i := ⟨_, rfl⟩
      obtain ⟨j, hj⟩ : ∃ j, highEnd (f, t) n = j := ⟨_, rfl⟩
      rw [hi, hj] at hle ⊢
      have hij := hle.1
      have hjn := hle.2
      have HI := hide hi
      have HJ := hide hj
      clear hi hj hle
      have r2 := (HR.out.alloc (.cells #[.int .i64 f, .int .i64 t] 49)).below d2 (by simp; omega)
      have hb2 : Below w.heap.size w w2 := (HB.out.alloc hsz _).trans (d2.mono (by simp; omega))
      have s2 : wr.heap.size ≤ w2.heap.size := by have := d2.size; simp at this; omega
      clear d2
      have q1 := fun W => run_slice_mid (P := Try.prog) W 22 3 i0 1 Try.underlying22 hi0 hz1 A1 n c1 .i64 .i64 i j hij (by omega)
      go_wp2_with fail
      clear q1
      refine (Reverse_part A1 _ _ n c1 i j _ _ r2 hij hjn (by omega)).mono ?_
      rintro e w3 ⟨rfl, r3, o3⟩
      have hb3 : Below w.heap.size w w3 := hb2.trans (o3.below (Nat.le_refl _) hb2.size)
      clear o3 r2
      go_wp2_with fail
      go_roundw
      case rel =>
        refine ⟨k + 1, by omega, by go_num, ?_, hb3⟩
        rw [revAll_snoc ps k (f, t) xs HXk.out, revOne, revAll_len, HX.out, HI.out, HJ.out]
        exact r3
      case measure => simp [intOf]; omega
    · obtain rfl : k = m := by omega
      go_wp2_with fail
      go_ret
      rw [List.take_of_length_le (by rw [HP.out]; exact Nat.le_refl _)] at r
      exact ⟨A1, c1, rfl, r.more (Nat.le_refl _) r.2.2 (Nat.le_refl _), hb⟩

end Go.Proofs.Ytbcjcceejddocaa
