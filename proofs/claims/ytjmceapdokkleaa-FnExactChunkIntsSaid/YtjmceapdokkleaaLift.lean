/-
  How the arguments of a law are opened: a list of numbers that came in reads as a list; its size by the form's reach and by the bulk.
-/
import Derived.Test.YtjmceapdokkleaaBase
import Derived.Test.YtjmceapdokkleaaRows
import Derived.ProofKit
import Derived.OpenShut
import Derived.ShutString
import Derived.ChangeOld
import Derived.SizedLaws
import Derived.JoinedCond
namespace Go.Proofs.Ytjmceapdokkleaa
open Go.ChangeShapes Go.WideShapes Go.ChangeAt Go.RowKit
open Go.ChangeMaps (open_string shut_string)

theorem ownKnob_none : ownKnob Try.prog.godebug = none := by kernel_rfl
theorem laidOut : laidOutB Try.prog = true := by kernel_rfl

section
variable {H : Type} {enc : TypeId × Value → H} {W : World} {base : Nat} {v : Value} {d : DataW H} {p : List MemPlace}

theorem bulk_one (d : DataW H) : 1 ≤ Rows.uptoBulk d := by
  cases d with
  | lit l => cases l <;> simp [Rows.uptoBulk]
  | nil => simp [Rows.uptoBulk]
  | ptr d => simp [Rows.uptoBulk]
  | slice elems spare => simp [Rows.uptoBulk]
  | agg parts => simp [Rows.uptoBulk]
  | iface t d => simp [Rows.uptoBulk]
  | map entries => simp [Rows.uptoBulk]
  | held h => simp [Rows.uptoBulk]

theorem bulk_len (l : List (DataW H)) : l.length ≤ Rows.uptoBulkAll l := by
  induction l with
  | nil => simp
  | cons x r ih =>
    have := bulk_one x
    simp only [Rows.uptoBulkAll, List.length_cons]
    omega

/-- the weights of one argument -/
theorem weights_arg {P : Program} {ts : List TypeId} {ds : List (DataW H)} {t : TypeId} (h : (DataW.weightsEach P ts ds).all (· ≤ reachBytes) = true) (j : Nat) (ht : ts[j]? = some t) (hd : ds[j]? = some d) :
    ∀ m ∈ d.weights P t, m ≤ reachBytes := fun m hm => by
  have := List.all_eq_true.1 h m (DataW.weights_mem_each ht hd m hm)
  simpa using this

theorem bytes_int : Try.prog.bytesOf 3 = 8 := by kernel_rfl

/-- a list of numbers that came in -/
theorem arg_ints (hok : Value.okWide Try.prog W .any base 23 v) (h : DataW.Trod enc Try.prog W 0 (fun _ => true) true 23 v d p) :
    ∃ (A : Option Addr) (n c : Nat) (xs : List Int), v = .slice A n c ∧ Sees W A n 1 (iv xs) ∧ n ≤ c ∧ c ≤ maxLen ∧ (∀ x ∈ xs, (Lit.int .i64 x).wf = true) ∧
      ((∀ m ∈ d.weights Try.prog 23, m ≤ reachBytes) → n ≤ 17592186043904) ∧ n + 1 ≤ Rows.uptoBulk d := by
  obtain ⟨A, n, c, rfl⟩ := okWide_slice Try.underlying23 hok
  obtain ⟨fuel, hf⟩ := h
  rcases open_ints Try.underlying23 Try.underlying3 (by kernel_rfl) hf with ⟨hcs, hx⟩ | ⟨x, l, c', zs, hcs, _, hl, hm, hz, hx, hcell, hwz⟩
  · simp only [Value.cells, List.cons.injEq, Value.slice.injEq, and_true] at hcs
    obtain ⟨rfl, rfl, rfl⟩ := hcs
    simp only [Prod.mk.injEq] at hx
    obtain ⟨rfl, rfl⟩ := hx
    exact ⟨none, 0, 0, [], rfl, Sees.nil_, Nat.le_refl _, by simp, by simp, fun _ => by omega, by simp [Rows.uptoBulk]⟩
  · simp only [Value.cells, List.cons.injEq, Value.slice.injEq, and_true] at hcs
    obtain ⟨rfl, rfl, rfl⟩ := hcs
    simp only [Prod.mk.injEq] at hx
    obtain ⟨rfl, rfl⟩ := hx
    simp only [if_true] at hz
    have hlen : (zs.take n).length = n := by rw [List.length_take]; omega
    refine ⟨some x, n, c, zs.take n, rfl, ⟨by rw [iv_len, hlen]; omega, fun j u hu => ?_⟩, hl, hm, fun y hy => hwz y (List.mem_of_mem_take hy), fun hw => ?_, ?_⟩
    · rw [iv_get] at hu
      obtain ⟨y, hy, rfl⟩ := Option.map_eq_some_iff.1 hu
      rw [List.getElem?_take] at hy
      split at hy
      · have hj := (List.getElem?_eq_some_iff.1 hy).1
        have hc := hcell j hj
        have e : zs.getD j 0 = y := by rw [List.getD_eq_getElem?_getD, hy]; rfl
        rw [e] at hc
        exact ⟨x, rfl, by have := World.block_lt_of_cell? W _ hc; rw [blk_add] at this; exact this, hc⟩
      · cases hy
    · have h1 := hw ((zs.take n).length * 8 + (zs.drop n).length * 8) (by
        simp only [DataW.weights, Try.underlying23, bytes_int, List.mem_cons]
        left
        simp only [lits, List.length_map]
        omega)
      simp only [reachBytes] at h1
      omega
    · simp only [Rows.uptoBulk]
      have h1 := bulk_len (H := H) (lits .i64 (zs.take n))
      simp only [lits, List.length_map, hlen] at h1
      simp only [lits]
      omega
end
end Go.Proofs.Ytjmceapdokkleaa
