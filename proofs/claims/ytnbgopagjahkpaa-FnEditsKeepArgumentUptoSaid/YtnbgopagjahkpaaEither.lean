/-
  Contracts that leave open whether a call panics inside.
-/
import Derived.Test.YtnbgopagjahkpaaRepW
namespace Go.Proofs.Ytnbgopagjahkpaa
open Go.RowKit
set_option linter.unusedVariables false

theorem InsertInts_either (A : Option Addr) (n c : Nat) (i : Int) (xs : List Int) (B : Option Addr) (m d : Nat) (vs : List Int) (w : World) (hs : Sees w A n 1 (iv xs)) (hv : Sees w B m 1 (iv vs)) (hn : n + m ≤ 17592186044416) :
    Calls Try.prog 4 #[.slice A n c, .int .i64 i, .slice B m d] w fun e w' =>
      ∃ (A' : Option Addr) (k c' : Nat) (ok : Bool), e = .returned (.tuple #[.slice A' k c', .bool ok]) ∧ Hid (ok = true → k = n + m) ∧ Below w.heap.size w w' := by
  by_cases h : 0 ≤ i ∧ i ≤ (n : Int)
  · obtain ⟨j, rfl⟩ : ∃ j : Nat, i = (j : Int) := ⟨i.toNat, by omega⟩
    exact (InsertInts_ok A n c j xs B m d vs w hs hv (by omega) hn).mono fun e w' ⟨A', c', he, _, hb⟩ => ⟨A', n + m, c', true, he, fun _ => rfl, hb⟩
  · exact (InsertInts_bad A n c i xs (.slice B m d) w hs (by omega) (by omega)).mono fun e w' ⟨he, hb⟩ => ⟨none, 0, 0, false, he, (fun h => by cases h), hb⟩
theorem DeleteInts_either (A : Option Addr) (n c : Nat) (i j : Int) (xs : List Int) (w : World) (hs : Sees w A n 1 (iv xs)) (hn : n ≤ 17592186044416) :
    Calls Try.prog 5 #[.slice A n c, .int .i64 i, .int .i64 j] w fun e w' =>
      ∃ (A' : Option Addr) (k c' : Nat) (ok : Bool), e = .returned (.tuple #[.slice A' k c', .bool ok]) ∧ Hid (k ≤ n) ∧ Below w.heap.size w w' := by
  by_cases h : 0 ≤ i ∧ i ≤ j ∧ j ≤ (n : Int)
  · obtain ⟨a, rfl⟩ : ∃ a : Nat, i = (a : Int) := ⟨i.toNat, by omega⟩
    obtain ⟨b, rfl⟩ : ∃ b : Nat, j = (b : Int) := ⟨j.toNat, by omega⟩
    exact (DeleteInts_ok A n c a b xs w hs (by omega) (by omega) hn).mono fun e w' ⟨A', c', he, _, hb⟩ => ⟨A', a + (n - b), c', true, he, (by show _ ≤ _; omega), hb⟩
  · exact (DeleteInts_bad A n c i j xs w hs (by omega) (by omega)).mono fun e w' ⟨he, hb⟩ => ⟨none, 0, 0, false, he, Nat.zero_le _, hb⟩
theorem ReplaceInts_either (A : Option Addr) (n c : Nat) (i j : Int) (xs : List Int) (B : Option Addr) (m d : Nat) (vs : List Int) (w : World) (hs : Sees w A n 1 (iv xs)) (hv : Sees w B m 1 (iv vs)) (hn : n + m ≤ 17592186044416) :
    Calls Try.prog 6 #[.slice A n c, .int .i64 i, .int .i64 j, .slice B m d] w fun e w' =>
      ∃ (A' : Option Addr) (k c' : Nat) (ok : Bool), e = .returned (.tuple #[.slice A' k c', .bool ok]) ∧ Hid (k ≤ n + m) ∧ Below w.heap.size w w' := by
  by_cases h : 0 ≤ i ∧ i ≤ j ∧ j ≤ (n : Int)
  · obtain ⟨a, rfl⟩ : ∃ a : Nat, i = (a : Int) := ⟨i.toNat, by omega⟩
    obtain ⟨b, rfl⟩ : ∃ b : Nat, j = (b : Int) := ⟨j.toNat, by omega⟩
    exact (ReplaceInts_ok A n c a b xs B m d vs w hs hv (by omega) (by omega) (by omega) (by omega)).mono fun e w' ⟨A', c', he, _, hb⟩ => ⟨A', a + m + (n - b), c', true, he, (by show _ ≤ _; omega), hb⟩
  · exact (ReplaceInts_bad A n c i j xs B m d w hs (by omega) (by omega)).mono fun e w' ⟨he, hb⟩ => ⟨none, 0, 0, false, he, Nat.zero_le _, hb⟩
end Go.Proofs.Ytnbgopagjahkpaa
