/-
  Contracts: lists copied and joined.
-/
import Derived.Test.YtjmceapdokkleaaInts
namespace Go.Proofs.Ytjmceapdokkleaa
open Go.RowKit
set_option linter.unusedVariables false

set_option maxHeartbeats 400000 in
theorem numbers_any (A : Option Addr) (n c : Nat) (xs : List Int) (w : World) (hs : Sees w A n 1 (iv xs)) (hn : n ≤ 17592186044416) :
    Calls Try.prog 38 #[.slice A n c] w fun e w' =>
      ∃ A' c', e = .returned (.slice A' n c') ∧ Row w' w.heap.size w'.heap.size 3 1 A' n c' (iv xs) ∧ Below w.heap.size w w' := by
  obtain ⟨i0, hi0, hz0, hz1, hz2⟩ := info_parts intInfo
  go_enter Try.func38, Try.ntmps38
  go_wp2_with (at_builtin; refine halt_here ?_)
  refine ⟨wpList_append_sees w rfl _ _ _ rfl w.heap.size w.heap.size 3 i0 _ 1 8 Try.underlying23 hi0 hz0 hz1 hz2 rfl (by omega) none 0 0 [] rfl (Row.none_ w _ _ _ _ (Nat.le_refl _))
    A n c (iv xs) rfl hs (iv_one xs) (by unfold maxLen; omega) (by omega) (Nat.le_refl _) ?_⟩
  intro A1 c1 w1 hrow1 ho1 _
  rw [Nat.zero_add, List.nil_append] at hrow1
  rw [Nat.zero_add]
  go_wp2
  go_ret
  exact ⟨A1, c1, rfl, hrow1, ho1.below (Nat.le_refl _) (Nat.le_refl _)⟩

end Go.Proofs.Ytjmceapdokkleaa
