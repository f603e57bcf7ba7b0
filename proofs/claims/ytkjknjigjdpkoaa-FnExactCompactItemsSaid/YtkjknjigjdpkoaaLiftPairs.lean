/-
  How arguments that are lists of pairs of numbers are opened.
-/
import Derived.Test.YtkjknjigjdpkoaaLift
import Derived.Test.YtkjknjigjdpkoaaPairBase
import Derived.Deep.SlicePairs
namespace Go.Proofs.Ytkjknjigjdpkoaa
open Go.ChangeShapes Go.WideShapes Go.ChangeAt Go.RowKit Go.Deep
set_option linter.unusedVariables false

section
variable {H : Type} {enc : TypeId × Value → H} {W : World} {base : Nat} {v : Value} {d : DataW H} {p : List MemPlace}
theorem pv_range {n : Nat} {V0 V1 : Nat → Value} (h : ∀ i, i < n → (∃ x, V0 i = .int .i64 x) ∧ ∃ y, V1 i = .int .i64 y) :
    ∀ j u, (pv ((List.range n).map fun i => (intOf (V0 i), intOf (V1 i))))[j]? = some u → j < n * 2 ∧ u = if j % 2 = 0 then V0 (j / 2) else V1 (j / 2) := by
  intro j u hu
  have hj := (List.getElem?_eq_some_iff.1 hu).1
  rw [pv_len, List.length_map, List.length_range] at hj
  refine ⟨hj, ?_⟩
  obtain ⟨⟨x, hx⟩, ⟨y, hy⟩⟩ := h (j / 2) (by omega)
  rcases Nat.mod_two_eq_zero_or_one j with h2 | h2
  · rw [show j = j / 2 * 2 by omega, pv_get0] at hu
    rw [if_pos h2, hx]
    simp [show j / 2 < n by omega, hx, intOf] at hu
    exact hu.symm
  · rw [show j = j / 2 * 2 + 1 by omega, pv_get1] at hu
    rw [if_neg (by omega), hy]
    simp [show j / 2 < n by omega, hy, intOf] at hu
    exact hu.symm
/-- a list of pairs that came in -/
theorem arg_pairs {P : Program} {t e q : TypeId} {f0 f1 : Field} (ht : P.underlying t = some (.slice e)) (he : P.underlying e = some (.struct #[f0, f1])) (ce : P.cellsOf e = 2) (o0 : f0.offset = 0) (o1 : f1.offset = 1)
    (t0 : f0.type = q) (t1 : f1.type = q) (hq : P.underlying q = some (.int .i64)) (cq : P.cellsOf q = 1) (be : P.bytesOf e = 16)
    (hok : Value.okWide P W .any base t v) (h : DataW.Trod enc P W 0 (fun _ => true) true t v d p) :
    ∃ (A : Option Addr) (n c : Nat) (ps : List (Int × Int)), v = .slice A n c ∧ Sees W A n 2 (pv ps) ∧ n ≤ c ∧ c ≤ maxLen ∧ (∀ x ∈ ps, (Lit.int .i64 x.1).wf = true ∧ (Lit.int .i64 x.2).wf = true) ∧
      ((∀ m ∈ d.weights P t, m ≤ reachBytes) → n ≤ 8796093021952) ∧ n + 1 ≤ Rows.uptoBulk d := by
  obtain ⟨A, n, c, rfl⟩ := okWide_slice ht hok
  obtain ⟨fuel, hf⟩ := h
  rcases open_slice_pairs ht he ce o0 o1 (by rw [t0, cq]) (by rw [t1, cq]) hf with ⟨hcs, hx⟩ | ⟨a, len, cap, m, fu, V0, V1, D0, D1, P0, P1, hcs, _, hl, hm, hmm, hx, hi⟩
  · simp only [Value.cells, List.cons.injEq, Value.slice.injEq, and_true] at hcs
    obtain ⟨rfl, rfl, rfl⟩ := hcs
    simp only [Prod.mk.injEq] at hx
    obtain ⟨rfl, rfl⟩ := hx
    exact ⟨none, 0, 0, [], rfl, Sees.nil_, Nat.le_refl _, by simp, by simp, fun _ => by omega, by simp [Rows.uptoBulk]⟩
  · simp only [Value.cells, List.cons.injEq, Value.slice.injEq, and_true] at hcs
    obtain ⟨rfl, rfl, rfl⟩ := hcs
    simp only [Prod.mk.injEq] at hx
    obtain ⟨rfl, rfl⟩ := hx
    simp only [if_true] at hmm
    subst hmm
    have hv : ∀ i, i < n → (∃ x, V0 i = .int .i64 x ∧ (Lit.int .i64 x).wf = true) ∧ ∃ y, V1 i = .int .i64 y ∧ (Lit.int .i64 y).wf = true := by
      intro i hin
      obtain ⟨_, _, h0, h1⟩ := hi i (by omega)
      rw [t0] at h0
      rw [t1] at h1
      obtain ⟨x, ex, _, wx⟩ := DataW.trod_int hq h0
      obtain ⟨y, ey, _, wy⟩ := DataW.trod_int hq h1
      simp only [List.cons.injEq, and_true] at ex ey
      exact ⟨⟨x, ex, wx⟩, ⟨y, ey, wy⟩⟩
    have hv2 : ∀ i, i < n → (∃ x, V0 i = .int .i64 x) ∧ ∃ y, V1 i = .int .i64 y := fun i hin => ⟨⟨_, (hv i hin).1.choose_spec.1⟩, ⟨_, (hv i hin).2.choose_spec.1⟩⟩
    refine ⟨some a, n, m, (List.range n).map fun i => (intOf (V0 i), intOf (V1 i)), rfl, ⟨by rw [pv_len, List.length_map, List.length_range], fun j u hu => ?_⟩, hl, hm, fun z hz => ?_, fun hw => ?_, ?_⟩
    · obtain ⟨hj, rfl⟩ := pv_range hv2 j u hu
      obtain ⟨c0, c1, _, _⟩ := hi (j / 2) (by omega)
      have hc : W.cell? (a.add j) = some (if j % 2 = 0 then V0 (j / 2) else V1 (j / 2)) := by
        rcases Nat.mod_two_eq_zero_or_one j with h2 | h2
        · rw [if_pos h2, ← c0, show j / 2 * 2 = j by omega]
        · rw [if_neg (by omega), ← c1, show j / 2 * 2 + 1 = j by omega]
      exact ⟨a, rfl, by have := World.block_lt_of_cell? W _ hc; rw [blk_add] at this; exact this, hc⟩
    · obtain ⟨i, hin, rfl⟩ := List.mem_map.1 hz
      obtain ⟨⟨x, ex, wx⟩, ⟨y, ey, wy⟩⟩ := hv i (List.mem_range.1 hin)
      simp only [ex, ey, intOf]
      exact ⟨wx, wy⟩
    · have h1 := hw ((n + (m - n)) * 16) (by
        simp only [DataW.weights, ht, be, List.mem_cons]
        left
        simp only [List.length_map, List.length_range])
      simp only [reachBytes] at h1
      omega
    · simp only [Rows.uptoBulk]
      have h1 := bulk_len (H := H) ((List.range n).map fun i => DataW.agg [D0 i, D1 i])
      simp only [List.length_map, List.length_range] at h1
      omega
end

theorem arg_Item {H : Type} {enc : TypeId × Value → H} {W : World} {base : Nat} {v : Value} {d : DataW H} {p : List MemPlace} (hok : Value.okWide Try.prog W .any base 31 v) (h : DataW.Trod enc Try.prog W 0 (fun _ => true) true 31 v d p) :
    ∃ (A : Option Addr) (n c : Nat) (ps : List (Int × Int)), v = .slice A n c ∧ Sees W A n 2 (pv ps) ∧ n ≤ c ∧ c ≤ maxLen ∧ (∀ x ∈ ps, (Lit.int .i64 x.1).wf = true ∧ (Lit.int .i64 x.2).wf = true) ∧
      ((∀ m ∈ d.weights Try.prog 31, m ≤ reachBytes) → n ≤ 8796093021952) ∧ n + 1 ≤ Rows.uptoBulk d :=
  arg_pairs Try.underlying31 Try.underlying47 (by kernel_rfl) rfl rfl rfl rfl Try.underlying3 (by kernel_rfl) (by kernel_rfl) hok h

end Go.Proofs.Ytkjknjigjdpkoaa
