/-
  Contract of laws.part.
-/
import Derived.Test.YtbcjcceejddocaaParts
namespace Go.Proofs.Ytbcjcceejddocaa
open Go.RowKit
set_option linter.unusedVariables false

set_option maxHeartbeats 1000000 in
theorem part_any (f t : Int) (n : Nat) (w : World) (hn : n ≤ 70368744177664) :
    Calls Try.prog 26 #[.agg #[.int .i64 f, .int .i64 t], .int .i64 n] w fun e w' =>
      e = .returned (.tuple #[.int .i64 ((lowEnd (f, t) n : Nat) : Int), .int .i64 ((highEnd (f, t) n : Nat) : Int)]) ∧ Below w.heap.size w w' := by
  have hb := rnd_bd f n
  have l1 := hb.1
  have l2 := hb.2
  have l3 := rnd_le f n
  have hb2 := rnd_bd t n
  have m1 := hb2.1
  have m2 := hb2.2
  have m3 := rnd_le t n
  have LE : Hid (lowEnd (f, t) n = min (rnd f n) (rnd t n)) := rfl
  have HE : Hid (highEnd (f, t) n = max (rnd f n) (rnd t n)) := rfl
  have e0 : ((n : Int) + 1 == 0) = false := by simp; omega
  clear hb hb2
  have core : ∀ (r s : Int) (x y : Nat), f.tmod ((n : Int) + 1) = r → t.tmod ((n : Int) + 1) = s → (r < 0 ∧ r + ((n : Int) + 1) = (x : Int) ∨ 0 ≤ r ∧ r = (x : Int)) → (s < 0 ∧ s + ((n : Int) + 1) = (y : Int) ∨ 0 ≤ s ∧ s = (y : Int)) → x ≤ n → y ≤ n →
      Calls Try.prog 26 #[.agg #[.int .i64 f, .int .i64 t], .int .i64 n] w fun e w' =>
        e = .returned (.tuple #[.int .i64 ((min x y : Nat) : Int), .int .i64 ((max x y : Nat) : Int)]) ∧ Below w.heap.size w w' := by
    intro r s x y hr hs hx hy lx ly
    rw [hr] at l1 l2
    rw [hs] at m1 m2
    clear l3 m3 LE HE
    have k1 : IntKind.i64.wrap ((n : Int) + 1) = (n : Int) + 1 := IntWalk.i64_in _ (by omega)
    have k2 : IntKind.i64.wrap r = r := IntWalk.i64_in _ (by omega)
    have k3 : IntKind.i64.wrap s = s := IntWalk.i64_in _ (by omega)
    have hbel : ∀ o : Obj, Below w.heap.size w (w.alloc o) := fun o => (Below.refl _ _).alloc (Nat.le_refl _) o
    have HB := hide hbel
    clear hbel
    rcases hx with ⟨h1, hx⟩ | ⟨h1, hx⟩ <;> rcases hy with ⟨h2, hy⟩ | ⟨h2, hy⟩ <;> rcases Nat.lt_or_ge y x with h3 | h3
    · have h4 : s + ((n : Int) + 1) < r + ((n : Int) + 1) := by omega
      have e1 : ((min x y : Nat) : Int) = s + ((n : Int) + 1) := by omega
      have e2 : ((max x y : Nat) : Int) = r + ((n : Int) + 1) := by omega
      rw [e1, e2]
      clear hx hy e1 e2 h3 lx ly
      go_enter Try.func26, Try.ntmps26
      go_wp2_with fail
      go_quiet (fail)
      clear k1 k2 k3 hr hs
      go_wp2_with fail
      go_ret2
      exact ⟨rfl, below_drewN (HB.out _) _⟩
    · have h4 : ¬ s + ((n : Int) + 1) < r + ((n : Int) + 1) := by omega
      have e1 : ((min x y : Nat) : Int) = r + ((n : Int) + 1) := by omega
      have e2 : ((max x y : Nat) : Int) = s + ((n : Int) + 1) := by omega
      rw [e1, e2]
      clear hx hy e1 e2 h3 lx ly
      go_enter Try.func26, Try.ntmps26
      go_wp2_with fail
      go_quiet (fail)
      clear k1 k2 k3 hr hs
      go_wp2_with fail
      go_ret2
      exact ⟨rfl, below_drewN (HB.out _) _⟩
    · have h4 : s < r + ((n : Int) + 1) := by omega
      have e1 : ((min x y : Nat) : Int) = s := by omega
      have e2 : ((max x y : Nat) : Int) = r + ((n : Int) + 1) := by omega
      rw [e1, e2]
      clear hx hy e1 e2 h3 lx ly
      go_enter Try.func26, Try.ntmps26
      go_wp2_with fail
      go_quiet (fail)
      clear k1 k2 k3 hr hs
      go_wp2_with fail
      go_ret2
      exact ⟨rfl, below_drewN (HB.out _) _⟩
    · have h4 : ¬ s < r + ((n : Int) + 1) := by omega
      have e1 : ((min x y : Nat) : Int) = r + ((n : Int) + 1) := by omega
      have e2 : ((max x y : Nat) : Int) = s := by omega
      rw [e1, e2]
      clear hx hy e1 e2 h3 lx ly
      go_enter Try.func26, Try.ntmps26
      go_wp2_with fail
      go_quiet (fail)
      clear k1 k2 k3 hr hs
      go_wp2_with fail
      go_ret2
      exact ⟨rfl, below_drewN (HB.out _) _⟩
    · have h4 : s + ((n : Int) + 1) < r := by omega
      have e1 : ((min x y : Nat) : Int) = s + ((n : Int) + 1) := by omega
      have e2 : ((max x y : Nat) : Int) = r := by omega
      rw [e1, e2]
      clear hx hy e1 e2 h3 lx ly
      go_enter Try.func26, Try.ntmps26
      go_wp2_with fail
      go_quiet (fail)
      clear k1 k2 k3 hr hs
      go_wp2_with fail
      go_ret2
      exact ⟨rfl, below_drewN (HB.out _) _⟩
    · have h4 : ¬ s + ((n : Int) + 1) < r := by omega
      have e1 : ((min x y : Nat) : Int) = r := by omega
      have e2 : ((max x y : Nat) : Int) = s + ((n : Int) + 1) := by omega
      rw [e1, e2]
      clear hx hy e1 e2 h3 lx ly
      go_enter Try.func26, Try.ntmps26
      go_wp2_with fail
      go_quiet (fail)
      clear k1 k2 k3 hr hs
      go_wp2_with fail
      go_ret2
      exact ⟨rfl, below_drewN (HB.out _) _⟩
    · have h4 : s < r := by omega
      have e1 : ((min x y : Nat) : Int) = s := by omega
      have e2 : ((max x y : Nat) : Int) = r := by omega
      rw [e1, e2]
      clear hx hy e1 e2 h3 lx ly
      go_enter Try.func26, Try.ntmps26
      go_wp2_with fail
      go_quiet (fail)
      clear k1 k2 k3 hr hs
      go_wp2_with fail
      go_ret2
      exact ⟨rfl, below_drewN (HB.out _) _⟩
    · have h4 : ¬ s < r := by omega
      have e1 : ((min x y : Nat) : Int) = r := by omega
      have e2 : ((max x y : Nat) : Int) = s := by omega
      rw [e1, e2]
      clear hx hy e1 e2 h3 lx ly
      go_enter Try.func26, Try.ntmps26
      go_wp2_with fail
      go_quiet (fail)
      clear k1 k2 k3 hr hs
      go_wp2_with fail
      go_ret2
      exact ⟨rfl, below_drewN (HB.out _) _⟩
  rw [LE.out, HE.out]
  refine core _ _ (rnd f n) (rnd t n) rfl rfl ?_ ?_ l3 m3
  · rcases Int.lt_or_le (f.tmod ((n : Int) + 1)) 0 with h | h
    · exact .inl ⟨h, rnd_neg h⟩
    · exact .inr ⟨h, rnd_pos h⟩
  · rcases Int.lt_or_le (t.tmod ((n : Int) + 1)) 0 with h | h
    · exact .inl ⟨h, rnd_neg h⟩
    · exact .inr ⟨h, rnd_pos h⟩
end Go.Proofs.Ytbcjcceejddocaa
