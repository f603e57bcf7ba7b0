/-
  How a list of lists of numbers that came in is opened.
-/
import Derived.Test.YtjmceapdokkleaaLift
import Derived.Test.YtjmceapdokkleaaConcat
import Derived.Deep.Matrix
namespace Go.Proofs.Ytjmceapdokkleaa
open Go.ChangeShapes Go.WideShapes Go.ChangeAt Go.RowKit

theorem bytes_ints : Try.prog.bytesOf 23 = 24 := by kernel_rfl

theorem arg_intss {H : Type} {enc : TypeId × Value → H} {W : World} {base : Nat} {v : Value} {d : DataW H} {p : List MemPlace} (hok : Value.okWide Try.prog W .any base 22 v) (h : DataW.Trod enc Try.prog W 0 (fun _ => true) true 22 v d p) :
    ∃ (A : Option Addr) (n c : Nat) (ps : List Pt), v = .slice A n c ∧ Sees W A n 1 (qv ps) ∧ All W ps ∧ (∀ p ∈ ps, p.n ≤ 9223372036854775807) ∧ n ≤ c ∧
      ((∀ m ∈ d.weights Try.prog 22, m ≤ reachBytes) → n ≤ 5864062014634) := by
  obtain ⟨A, n, c, rfl⟩ := okWide_slice Try.underlying22 hok
  obtain ⟨fuel, hf⟩ := h
  rcases Go.Deep.open_int_rows Try.underlying22 Try.underlying23 Try.underlying3 (by kernel_rfl) (by kernel_rfl) hf with ⟨hcs, hx⟩ | ⟨a, l, cap, AA, L, C, Z, hcs, _, hl, hm, hx, hr⟩
  · simp only [Value.cells, List.cons.injEq, Value.slice.injEq, and_true] at hcs
    obtain ⟨rfl, rfl, rfl⟩ := hcs
    exact ⟨none, 0, 0, [], rfl, Sees.nil_, (fun p hp => by cases hp), (fun p hp => by cases hp), Nat.le_refl _, fun _ => by omega⟩
  · simp only [Value.cells, List.cons.injEq, Value.slice.injEq, and_true] at hcs
    obtain ⟨rfl, rfl, rfl⟩ := hcs
    simp only [Prod.mk.injEq] at hx
    obtain ⟨rfl, rfl⟩ := hx
    refine ⟨some a, n, c, (List.range n).map fun r => ⟨AA r, L r, C r, (Z r).take (L r)⟩, rfl, ⟨by rw [qv_len, List.length_map, List.length_range]; omega, fun j u hu => ?_⟩, fun q hq => ?_, fun q hq => ?_, hl, fun hw => ?_⟩
    · rw [qv_get, List.getElem?_map] at hu
      have hj : j < n := by
        rcases Nat.lt_or_ge j n with h | h
        · exact h
        · rw [List.getElem?_eq_none (by rw [List.length_range]; exact h)] at hu
          cases hu
      rw [List.getElem?_range hj] at hu
      simp only [Option.map_some, Option.some.injEq] at hu
      subst hu
      have hc := (hr j (by omega)).1
      exact ⟨a, rfl, by have := World.block_lt_of_cell? W _ hc; rw [blk_add] at this; exact this, hc⟩
    · obtain ⟨r, hrn, rfl⟩ := List.mem_map.1 hq
      have hrn := List.mem_range.1 hrn
      obtain ⟨h1, h2, h3, h4, h5, h6, h7⟩ := hr r (by omega)
      refine ⟨⟨?_, fun j u hu => ?_⟩, h2⟩
      · show (iv ((Z r).take (L r))).length = L r * 1
        rw [iv_len, List.length_take, h4]
        omega
      · change (iv ((Z r).take (L r)))[j]? = some u at hu
        rw [iv_get] at hu
        obtain ⟨y, hy, rfl⟩ := Option.map_eq_some_iff.1 hu
        rw [List.getElem?_take] at hy
        split at hy
        · have hj := (List.getElem?_eq_some_iff.1 hy).1
          rw [h4] at hj
          show ∃ ad, AA r = some ad ∧ _
          rcases hA : AA r with _ | a'
          · have := h6 hA
            omega
          · have hc := (h7 a' hA).2 j hj
            have e : (Z r).getD j 0 = y := by rw [List.getD_eq_getElem?_getD, hy]; rfl
            rw [e] at hc
            exact ⟨a', rfl, by have := World.block_lt_of_cell? W _ hc; rw [blk_add] at this; exact this, hc⟩
        · cases hy
    · obtain ⟨r, hrn, rfl⟩ := List.mem_map.1 hq
      have hrn := List.mem_range.1 hrn
      obtain ⟨_, h2, h3, _⟩ := hr r (by omega)
      unfold maxLen at h3
      show L r ≤ _
      omega
    · have h1 := hw (n * 24 + (c - n) * 24) (by
        simp only [DataW.weights, Try.underlying22, bytes_ints, List.mem_cons]
        left
        simp only [List.length_map, List.length_range]
        omega)
      simp only [reachBytes] at h1
      omega
end Go.Proofs.Ytjmceapdokkleaa
