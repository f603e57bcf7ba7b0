/-
  Contracts: lists copied and joined.
-/
import Derived.Test.YtnbgopagjahkpaaInts
namespace Go.Proofs.Ytnbgopagjahkpaa
open Go.RowKit
set_option linter.unusedVariables false

set_option maxHeartbeats 400000 in
theorem numbers_any (A : Option Addr) (n c : Nat) (xs : List Int) (w : World) (hs : Sees w A n 1 (iv xs)) (hn : n ≤ 17592186044416) :
    Calls Try.prog 13 #[.slice A n c] w fun e w' =>
      ∃ A' c', e = .returned (.slice A' n c') ∧ Row w' w.heap.size w'.heap.size 3 1 A' n c' (iv xs) ∧ Below w.heap.size w w' := by
  obtain ⟨i0, hi0, hz0, hz1, hz2⟩ := info_parts intInfo
  go_enter Try.func13, Try.ntmps13
  go_wp2_with (at_builtin; refine halt_here ?_)
  refine ⟨wpList_append_sees w rfl _ _ _ rfl w.heap.size w.heap.size 3 i0 _ 1 8 Try.underlying22 hi0 hz0 hz1 hz2 rfl (by omega) none 0 0 [] rfl (Row.none_ w _ _ _ _ (Nat.le_refl _))
    A n c (iv xs) rfl hs (iv_one xs) (by unfold maxLen; omega) (by omega) (Nat.le_refl _) ?_⟩
  intro A1 c1 w1 hrow1 ho1 _
  rw [Nat.zero_add, List.nil_append] at hrow1
  rw [Nat.zero_add]
  go_wp2
  go_ret
  exact ⟨A1, c1, rfl, hrow1, ho1.below (Nat.le_refl _) (Nat.le_refl _)⟩

set_option maxHeartbeats 400000 in
theorem joined_any (A B : Option Addr) (n m c d : Nat) (xs ys : List Int) (w : World) (hs : Sees w A n 1 (iv xs)) (ht : Sees w B m 1 (iv ys)) (hn : n + m ≤ 17592186044416) :
    Calls Try.prog 10 #[.slice A n c, .slice B m d] w fun e w' =>
      ∃ A' c', e = .returned (.slice A' (n + m) c') ∧ Row w' w.heap.size w'.heap.size 3 1 A' (n + m) c' (iv (xs ++ ys)) ∧ Below w.heap.size w w' := by
  obtain ⟨i0, hi0, hz0, hz1, hz2⟩ := info_parts intInfo
  go_enter Try.func10, Try.ntmps10
  go_wp2_with (at_builtin; refine halt_here ?_)
  refine ⟨wpList_append_sees w rfl _ _ _ rfl w.heap.size w.heap.size 3 i0 _ 1 8 Try.underlying22 hi0 hz0 hz1 hz2 rfl (by omega) none 0 0 [] rfl (Row.none_ w _ _ _ _ (Nat.le_refl _)) A n c (iv xs) rfl hs (iv_one xs) (by unfold maxLen; omega) (by omega) (Nat.le_refl _) ?_⟩
  intro A1 c1 w1 hrow1 ho1 _
  rw [Nat.zero_add, List.nil_append] at hrow1
  rw [Nat.zero_add]
  have hb1 := ho1.below (Nat.le_refl _) (Nat.le_refl _)
  go_wp2_with (at_builtin; refine halt_here ?_)
  refine ⟨wpList_append_sees w1 rfl _ _ _ rfl w.heap.size w1.heap.size 3 i0 _ 1 8 Try.underlying22 hi0 hz0 hz1 hz2 rfl (by omega) A1 n c1 (iv xs) rfl hrow1 B m d (iv ys) rfl (ht.below hb1) (iv_one ys) (by unfold maxLen; omega) (by omega) hb1.size ?_⟩
  intro A2 c2 w2 hrow2 ho2 _
  go_wp2
  go_ret
  rw [← iv_append] at hrow2
  exact ⟨A2, c2, rfl, hrow2, hb1.trans (ho2.below (Nat.le_refl _) hb1.size)⟩
end Go.Proofs.Ytnbgopagjahkpaa
