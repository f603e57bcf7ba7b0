/-
  Contracts: slices.Delete, its wrappers and references.
-/
import Derived.Test.YtjmceapdokkleaaSmall
import Derived.Test.YtjmceapdokkleaaMem
namespace Go.Proofs.Ytjmceapdokkleaa
open Go.RowKit
set_option linter.unusedVariables false

theorem zeroInts (m : Nat) : (Builtin.zeroCells (Value.int .i64 0).cells m).toList = iv (List.replicate m 0) := by
  refine List.ext_getElem? fun j => ?_
  by_cases hj : j < m
  · rw [iv_get, List.getElem?_replicate, if_pos hj]
    simp [Builtin.zeroCells, Value.cells, hj, Nat.mod_one]
  · rw [List.getElem?_eq_none (by simp [Builtin.zeroCells, Value.cells]; omega), List.getElem?_eq_none (by rw [iv_len, List.length_replicate]; omega)]

end Go.Proofs.Ytjmceapdokkleaa
