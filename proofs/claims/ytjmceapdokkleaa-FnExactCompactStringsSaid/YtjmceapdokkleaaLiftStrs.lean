/-
  How arguments that are lists of strings are opened.
-/
import Derived.Test.YtjmceapdokkleaaLift
import Derived.Test.YtjmceapdokkleaaStrs
import Derived.SliceStrings
namespace Go.Proofs.Ytjmceapdokkleaa
open Go.ChangeShapes Go.WideShapes Go.ChangeAt Go.RowKit
set_option linter.unusedVariables false

section
variable {H : Type} {enc : TypeId × Value → H} {W : World} {base : Nat} {v : Value} {d : DataW H} {p : List MemPlace}
theorem bytes_str : Try.prog.bytesOf 9 = 16 := by kernel_rfl
/-- a list of strings that came in -/
theorem arg_strs (hok : Value.okWide Try.prog W .any base 37 v) (h : DataW.Trod enc Try.prog W 0 (fun _ => true) true 37 v d p) :
    ∃ (A : Option Addr) (n c : Nat) (xs : List ByteArray), v = .slice A n c ∧ Sees W A n 1 (sv xs) ∧ n ≤ c ∧ c ≤ maxLen ∧ (∀ x ∈ xs, x.size ≤ maxLen) ∧
      ((∀ m ∈ d.weights Try.prog 37, m ≤ reachBytes) → n ≤ 8796093021952) := by
  obtain ⟨A, n, c, rfl⟩ := okWide_slice Try.underlying37 hok
  obtain ⟨fuel, hf⟩ := h
  rcases open_strings Try.underlying37 Try.underlying9 (by kernel_rfl) hf with ⟨hcs, hx⟩ | ⟨x, l, c', zs, hcs, _, hl, hm, hz, hx, hcell, hwz⟩
  · simp only [Value.cells, List.cons.injEq, Value.slice.injEq, and_true] at hcs
    obtain ⟨rfl, rfl, rfl⟩ := hcs
    simp only [Prod.mk.injEq] at hx
    obtain ⟨rfl, rfl⟩ := hx
    exact ⟨none, 0, 0, [], rfl, Sees.nil_, Nat.le_refl _, by simp, by simp, fun _ => by omega⟩
  · simp only [Value.cells, List.cons.injEq, Value.slice.injEq, and_true] at hcs
    obtain ⟨rfl, rfl, rfl⟩ := hcs
    simp only [Prod.mk.injEq] at hx
    obtain ⟨rfl, rfl⟩ := hx
    simp only [if_true] at hz
    have hlen : (zs.take n).length = n := by rw [List.length_take]; omega
    refine ⟨some x, n, c, zs.take n, rfl, ⟨by rw [sv_len, hlen]; omega, fun j u hu => ?_⟩, hl, hm, fun y hy => hwz y (List.mem_of_mem_take hy), fun hw => ?_⟩
    · rw [sv_get] at hu
      obtain ⟨y, hy, rfl⟩ := Option.map_eq_some_iff.1 hu
      rw [List.getElem?_take] at hy
      split at hy
      · have hj := (List.getElem?_eq_some_iff.1 hy).1
        have hc := hcell j hj
        have e : zs.getD j ByteArray.empty = y := by rw [List.getD_eq_getElem?_getD, hy]; rfl
        rw [e] at hc
        exact ⟨x, rfl, by have := World.block_lt_of_cell? W _ hc; rw [blk_add] at this; exact this, hc⟩
      · cases hy
    · have h1 := hw ((zs.take n).length * 16 + (zs.drop n).length * 16) (by
        simp only [DataW.weights, Try.underlying37, bytes_str, List.mem_cons]
        left
        simp only [strs, List.length_map]
        omega)
      simp only [reachBytes] at h1
      omega
end
end Go.Proofs.Ytjmceapdokkleaa
