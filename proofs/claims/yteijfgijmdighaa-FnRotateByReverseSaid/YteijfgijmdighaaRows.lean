/-
  No cell of these rows narrows 'for every input' (looked for: loops, veiled, ifaces, maps, wideKeys, modest, calm, conditions, laid).
  DERIVED. THE GIVEN ROWS OF THIS SEAT. 11 by the template 'for every input the law returns true; each argument reads behind the call as it read before'; 0 by the template 'total and deterministic' (their statements: YteijfgijmdighaaTotals.lean).
  GIVEN WITH THE SEED: the statements are not yours to turn. If you find one false, say at which input.
  Laid BY PROGRAM, IN A SANDBOX (cutbox-rows.mjs): the forced cells as the released guide's own fill.sh prints them over the translation 05e468dece89e92c… (all of the seat's roots in one cut). By AI agents, Wed Nov 11 2026. No macro, syntax, notation, axiom, sorry.
-/
import Derived.Test.YteijfgijmdighaaChecked
import GoSem.Claim
import GoSem.ClaimJoined
import GoSem.ClaimMapViews
import Derived.JoinedTies
import Derived.KernelRfl
namespace Go.Proofs.Yteijfgijmdighaa
/- THE CELL 'sum', in the pinned program and in every row, IS THE sha256 OF THE DUMP (.gsa) THAT YteijfgijmdighaaProg.lean LOADS. Nothing in Lean hashes anything: it is a label: what it is worth is what the hold of that sum in a sandbox is worth. -/
noncomputable def Try.pinned : Pinned := { name := "yteijfgijmdighaa", sum := "05e468dece89e92c71980e0af65ec41f1af9b76ab515af07e01a4e2b0e72c0bf", checked := Try.checked }
namespace Rows
def none {H : Type} : Left H := { results := [], args := [] }

/-- 'laws.FnExactIndexInt': WHATEVER THE INPUT: true; the input reads as it did. -/
def fnExactIndexIntSpec : ChangeSpec := { name := "fnExactIndexInt", fn := fun _ => fun
  | [d1, d2] => { results := [.lit (.bool true)], args := [d1, d2] }
  | _ => none }
def fnExactIndexIntRow : OpenClaim := { program := "yteijfgijmdighaa", sum := "05e468dece89e92c71980e0af65ec41f1af9b76ab515af07e01a4e2b0e72c0bf", func := "loop.example/lib-g01184/laws.FnExactIndexInt", spec := "fnExactIndexInt", apart := false }
def FnExactIndexIntSaid : Prop := fnExactIndexIntRow.holds Try.pinned (OpenSpec.ofChange fnExactIndexIntSpec)

/-- ITS FALSE NEIGHBOUR: 'it returns false'. Refute it at one input. -/
def fnExactIndexIntWrong : ChangeSpec := { name := "fnExactIndexInt", fn := fun _ => fun
  | [d1, d2] => { results := [.lit (.bool false)], args := [d1, d2] }
  | _ => none }
def FnExactIndexIntWrongFalsely : Prop := fnExactIndexIntRow.holds Try.pinned (OpenSpec.ofChange fnExactIndexIntWrong)

/-- 'laws.FnExactIndexKey': WHATEVER THE INPUT: true; the input reads as it did. -/
def fnExactIndexKeySpec : ChangeSpec := { name := "fnExactIndexKey", fn := fun _ => fun
  | [d1, d2] => { results := [.lit (.bool true)], args := [d1, d2] }
  | _ => none }
def fnExactIndexKeyRow : OpenClaim := { program := "yteijfgijmdighaa", sum := "05e468dece89e92c71980e0af65ec41f1af9b76ab515af07e01a4e2b0e72c0bf", func := "loop.example/lib-g01184/laws.FnExactIndexKey", spec := "fnExactIndexKey", unfollowed := true, recurses := true, apart := false }
def FnExactIndexKeySaid : Prop := fnExactIndexKeyRow.holds Try.pinned (OpenSpec.ofChange fnExactIndexKeySpec)

/-- ITS FALSE NEIGHBOUR: 'it returns false'. Refute it at one input. -/
def fnExactIndexKeyWrong : ChangeSpec := { name := "fnExactIndexKey", fn := fun _ => fun
  | [d1, d2] => { results := [.lit (.bool false)], args := [d1, d2] }
  | _ => none }
def FnExactIndexKeyWrongFalsely : Prop := fnExactIndexKeyRow.holds Try.pinned (OpenSpec.ofChange fnExactIndexKeyWrong)

/-- 'laws.FnExactContainsInt': WHATEVER THE INPUT: true; the input reads as it did. -/
def fnExactContainsIntSpec : ChangeSpec := { name := "fnExactContainsInt", fn := fun _ => fun
  | [d1, d2] => { results := [.lit (.bool true)], args := [d1, d2] }
  | _ => none }
def fnExactContainsIntRow : OpenClaim := { program := "yteijfgijmdighaa", sum := "05e468dece89e92c71980e0af65ec41f1af9b76ab515af07e01a4e2b0e72c0bf", func := "loop.example/lib-g01184/laws.FnExactContainsInt", spec := "fnExactContainsInt", apart := false }
def FnExactContainsIntSaid : Prop := fnExactContainsIntRow.holds Try.pinned (OpenSpec.ofChange fnExactContainsIntSpec)

/-- ITS FALSE NEIGHBOUR: 'it returns false'. Refute it at one input. -/
def fnExactContainsIntWrong : ChangeSpec := { name := "fnExactContainsInt", fn := fun _ => fun
  | [d1, d2] => { results := [.lit (.bool false)], args := [d1, d2] }
  | _ => none }
def FnExactContainsIntWrongFalsely : Prop := fnExactContainsIntRow.holds Try.pinned (OpenSpec.ofChange fnExactContainsIntWrong)

/-- 'laws.FnIndexIsFirst': WHATEVER THE INPUT: true; the input reads as it did. -/
def fnIndexIsFirstSpec : ChangeSpec := { name := "fnIndexIsFirst", fn := fun _ => fun
  | [d1, d2] => { results := [.lit (.bool true)], args := [d1, d2] }
  | _ => none }
def fnIndexIsFirstRow : OpenClaim := { program := "yteijfgijmdighaa", sum := "05e468dece89e92c71980e0af65ec41f1af9b76ab515af07e01a4e2b0e72c0bf", func := "loop.example/lib-g01184/laws.FnIndexIsFirst", spec := "fnIndexIsFirst", apart := false }
def FnIndexIsFirstSaid : Prop := fnIndexIsFirstRow.holds Try.pinned (OpenSpec.ofChange fnIndexIsFirstSpec)

/-- ITS FALSE NEIGHBOUR: 'it returns false'. Refute it at one input. -/
def fnIndexIsFirstWrong : ChangeSpec := { name := "fnIndexIsFirst", fn := fun _ => fun
  | [d1, d2] => { results := [.lit (.bool false)], args := [d1, d2] }
  | _ => none }
def FnIndexIsFirstWrongFalsely : Prop := fnIndexIsFirstRow.holds Try.pinned (OpenSpec.ofChange fnIndexIsFirstWrong)

/-- 'laws.FnIndexOfEach': WHATEVER THE INPUT: true; the input reads as it did. -/
def fnIndexOfEachSpec : ChangeSpec := { name := "fnIndexOfEach", fn := fun _ => fun
  | [d] => { results := [.lit (.bool true)], args := [d] }
  | _ => none }
def fnIndexOfEachRow : OpenClaim := { program := "yteijfgijmdighaa", sum := "05e468dece89e92c71980e0af65ec41f1af9b76ab515af07e01a4e2b0e72c0bf", func := "loop.example/lib-g01184/laws.FnIndexOfEach", spec := "fnIndexOfEach", unfollowed := true, recurses := true, apart := false }
def FnIndexOfEachSaid : Prop := fnIndexOfEachRow.holds Try.pinned (OpenSpec.ofChange fnIndexOfEachSpec)

/-- ITS FALSE NEIGHBOUR: 'it returns false'. Refute it at one input. -/
def fnIndexOfEachWrong : ChangeSpec := { name := "fnIndexOfEach", fn := fun _ => fun
  | [d] => { results := [.lit (.bool false)], args := [d] }
  | _ => none }
def FnIndexOfEachWrongFalsely : Prop := fnIndexOfEachRow.holds Try.pinned (OpenSpec.ofChange fnIndexOfEachWrong)

/-- 'laws.FnExactReverseInts': WHATEVER THE INPUT: true; the input reads as it did. -/
def fnExactReverseIntsSpec : ChangeSpec := { name := "fnExactReverseInts", fn := fun _ => fun
  | [d] => { results := [.lit (.bool true)], args := [d] }
  | _ => none }
def fnExactReverseIntsRow : OpenClaim := { program := "yteijfgijmdighaa", sum := "05e468dece89e92c71980e0af65ec41f1af9b76ab515af07e01a4e2b0e72c0bf", func := "loop.example/lib-g01184/laws.FnExactReverseInts", spec := "fnExactReverseInts", apart := false }
def FnExactReverseIntsSaid : Prop := fnExactReverseIntsRow.holds Try.pinned (OpenSpec.ofChange fnExactReverseIntsSpec)

/-- ITS FALSE NEIGHBOUR: 'it returns false'. Refute it at one input. -/
def fnExactReverseIntsWrong : ChangeSpec := { name := "fnExactReverseInts", fn := fun _ => fun
  | [d] => { results := [.lit (.bool false)], args := [d] }
  | _ => none }
def FnExactReverseIntsWrongFalsely : Prop := fnExactReverseIntsRow.holds Try.pinned (OpenSpec.ofChange fnExactReverseIntsWrong)

/-- 'laws.FnReverseOfJoined': WHATEVER THE INPUT: true; the input reads as it did. -/
def fnReverseOfJoinedSpec : ChangeSpec := { name := "fnReverseOfJoined", fn := fun _ => fun
  | [d1, d2] => { results := [.lit (.bool true)], args := [d1, d2] }
  | _ => none }
def fnReverseOfJoinedRow : OpenClaim := { program := "yteijfgijmdighaa", sum := "05e468dece89e92c71980e0af65ec41f1af9b76ab515af07e01a4e2b0e72c0bf", func := "loop.example/lib-g01184/laws.FnReverseOfJoined", spec := "fnReverseOfJoined", apart := false }
def FnReverseOfJoinedSaid : Prop := fnReverseOfJoinedRow.holds Try.pinned (OpenSpec.ofChange fnReverseOfJoinedSpec)

/-- ITS FALSE NEIGHBOUR: 'it returns false'. Refute it at one input. -/
def fnReverseOfJoinedWrong : ChangeSpec := { name := "fnReverseOfJoined", fn := fun _ => fun
  | [d1, d2] => { results := [.lit (.bool false)], args := [d1, d2] }
  | _ => none }
def FnReverseOfJoinedWrongFalsely : Prop := fnReverseOfJoinedRow.holds Try.pinned (OpenSpec.ofChange fnReverseOfJoinedWrong)

/-- 'laws.FnReverseTwice': WHATEVER THE INPUT: true; the input reads as it did. -/
def fnReverseTwiceSpec : ChangeSpec := { name := "fnReverseTwice", fn := fun _ => fun
  | [d] => { results := [.lit (.bool true)], args := [d] }
  | _ => none }
def fnReverseTwiceRow : OpenClaim := { program := "yteijfgijmdighaa", sum := "05e468dece89e92c71980e0af65ec41f1af9b76ab515af07e01a4e2b0e72c0bf", func := "loop.example/lib-g01184/laws.FnReverseTwice", spec := "fnReverseTwice", apart := false }
def FnReverseTwiceSaid : Prop := fnReverseTwiceRow.holds Try.pinned (OpenSpec.ofChange fnReverseTwiceSpec)

/-- ITS FALSE NEIGHBOUR: 'it returns false'. Refute it at one input. -/
def fnReverseTwiceWrong : ChangeSpec := { name := "fnReverseTwice", fn := fun _ => fun
  | [d] => { results := [.lit (.bool false)], args := [d] }
  | _ => none }
def FnReverseTwiceWrongFalsely : Prop := fnReverseTwiceRow.holds Try.pinned (OpenSpec.ofChange fnReverseTwiceWrong)

/-- 'laws.FnExactReverseParts': WHATEVER THE INPUT: true; the input reads as it did. -/
def fnExactReversePartsSpec : ChangeSpec := { name := "fnExactReverseParts", fn := fun _ => fun
  | [d1, d2] => { results := [.lit (.bool true)], args := [d1, d2] }
  | _ => none }
def fnExactReversePartsRow : OpenClaim := { program := "yteijfgijmdighaa", sum := "05e468dece89e92c71980e0af65ec41f1af9b76ab515af07e01a4e2b0e72c0bf", func := "loop.example/lib-g01184/laws.FnExactReverseParts", spec := "fnExactReverseParts", apart := false }
def FnExactReversePartsSaid : Prop := fnExactReversePartsRow.holds Try.pinned (OpenSpec.ofChange fnExactReversePartsSpec)

/-- ITS FALSE NEIGHBOUR: 'it returns false'. Refute it at one input. -/
def fnExactReversePartsWrong : ChangeSpec := { name := "fnExactReverseParts", fn := fun _ => fun
  | [d1, d2] => { results := [.lit (.bool false)], args := [d1, d2] }
  | _ => none }
def FnExactReversePartsWrongFalsely : Prop := fnExactReversePartsRow.holds Try.pinned (OpenSpec.ofChange fnExactReversePartsWrong)

/-- 'laws.FnReversePartsBack': WHATEVER THE INPUT: true; the input reads as it did. -/
def fnReversePartsBackSpec : ChangeSpec := { name := "fnReversePartsBack", fn := fun _ => fun
  | [d1, d2] => { results := [.lit (.bool true)], args := [d1, d2] }
  | _ => none }
def fnReversePartsBackRow : OpenClaim := { program := "yteijfgijmdighaa", sum := "05e468dece89e92c71980e0af65ec41f1af9b76ab515af07e01a4e2b0e72c0bf", func := "loop.example/lib-g01184/laws.FnReversePartsBack", spec := "fnReversePartsBack", apart := false }
def FnReversePartsBackSaid : Prop := fnReversePartsBackRow.holds Try.pinned (OpenSpec.ofChange fnReversePartsBackSpec)

/-- ITS FALSE NEIGHBOUR: 'it returns false'. Refute it at one input. -/
def fnReversePartsBackWrong : ChangeSpec := { name := "fnReversePartsBack", fn := fun _ => fun
  | [d1, d2] => { results := [.lit (.bool false)], args := [d1, d2] }
  | _ => none }
def FnReversePartsBackWrongFalsely : Prop := fnReversePartsBackRow.holds Try.pinned (OpenSpec.ofChange fnReversePartsBackWrong)

/-- 'laws.FnRotateByReverse': WHATEVER THE INPUT: true; the input reads as it did. -/
def fnRotateByReverseSpec : ChangeSpec := { name := "fnRotateByReverse", fn := fun _ => fun
  | [d1, d2] => { results := [.lit (.bool true)], args := [d1, d2] }
  | _ => none }
def fnRotateByReverseRow : OpenClaim := { program := "yteijfgijmdighaa", sum := "05e468dece89e92c71980e0af65ec41f1af9b76ab515af07e01a4e2b0e72c0bf", func := "loop.example/lib-g01184/laws.FnRotateByReverse", spec := "fnRotateByReverse", apart := false }
def FnRotateByReverseSaid : Prop := fnRotateByReverseRow.holds Try.pinned (OpenSpec.ofChange fnRotateByReverseSpec)

/-- ITS FALSE NEIGHBOUR: 'it returns false'. Refute it at one input. -/
def fnRotateByReverseWrong : ChangeSpec := { name := "fnRotateByReverse", fn := fun _ => fun
  | [d1, d2] => { results := [.lit (.bool false)], args := [d1, d2] }
  | _ => none }
def FnRotateByReverseWrongFalsely : Prop := fnRotateByReverseRow.holds Try.pinned (OpenSpec.ofChange fnRotateByReverseWrong)

/- THE SECOND FORM. 'bulk': how many values and letters a reading holds, each counted each time it is reached (what is shared counts as often as it is met; a slice's spare places count too). A statement '..UptoSaid' is the law's where the arguments, and the package variables that the reading takes, are together of bulk at most 1048576: NARROWER than '..Said'. Prove '..Said' where nothing that the law and all that it calls make is longer than what came in: it says more and counts as full. Else prove '..UptoSaid'. A law counts once. -/
mutual
def uptoBulk {H : Type} : DataW H → Nat
  | .lit (.string bytes) => bytes.length + 1
  | .lit _ => 1
  | .nil => 1
  | .ptr d => uptoBulk d + 1
  | .slice elems spare => uptoBulkAll elems + uptoBulkAll spare + 1
  | .agg parts => uptoBulkAll parts + 1
  | .iface _ d => uptoBulk d + 1
  | .map entries => uptoBulkEntries entries + 1
  | .held _ => 1
def uptoBulkAll {H : Type} : List (DataW H) → Nat
  | [] => 0
  | d :: r => uptoBulk d + uptoBulkAll r
def uptoBulkEntries {H : Type} : List (Lit × DataW H) → Nat
  | [] => 0
  | x :: r => uptoBulkEntry x + uptoBulkEntries r
def uptoBulkEntry {H : Type} : Lit × DataW H → Nat
  | (.string bytes, d) => bytes.length + uptoBulk d + 1
  | (_, d) => uptoBulk d + 1
 end
def uptoSmall : (H : Type) → List (DataW H) → Bool := fun _ ds => decide (uptoBulkAll ds ≤ 1048576)
def OpenSpec.upto (s : _root_.Go.ChangeSpec) : _root_.Go.OpenSpec := { _root_.Go.OpenSpec.ofChange s with cond := some uptoSmall }

/-- 'laws.FnExactIndexInt', WHERE WHAT IT READS IS OF BULK AT MOST 1048576: true; the input reads as it did. -/
def fnExactIndexIntUptoRow : OpenClaim := { program := "yteijfgijmdighaa", sum := "05e468dece89e92c71980e0af65ec41f1af9b76ab515af07e01a4e2b0e72c0bf", func := "loop.example/lib-g01184/laws.FnExactIndexInt", spec := "fnExactIndexInt", apart := false, narrowed := true }
def FnExactIndexIntUptoSaid : Prop := fnExactIndexIntUptoRow.holds Try.pinned (OpenSpec.upto fnExactIndexIntSpec)

/-- 'laws.FnExactIndexKey', WHERE WHAT IT READS IS OF BULK AT MOST 1048576: true; the input reads as it did. -/
def fnExactIndexKeyUptoRow : OpenClaim := { program := "yteijfgijmdighaa", sum := "05e468dece89e92c71980e0af65ec41f1af9b76ab515af07e01a4e2b0e72c0bf", func := "loop.example/lib-g01184/laws.FnExactIndexKey", spec := "fnExactIndexKey", unfollowed := true, recurses := true, apart := false, narrowed := true }
def FnExactIndexKeyUptoSaid : Prop := fnExactIndexKeyUptoRow.holds Try.pinned (OpenSpec.upto fnExactIndexKeySpec)

/-- 'laws.FnExactContainsInt', WHERE WHAT IT READS IS OF BULK AT MOST 1048576: true; the input reads as it did. -/
def fnExactContainsIntUptoRow : OpenClaim := { program := "yteijfgijmdighaa", sum := "05e468dece89e92c71980e0af65ec41f1af9b76ab515af07e01a4e2b0e72c0bf", func := "loop.example/lib-g01184/laws.FnExactContainsInt", spec := "fnExactContainsInt", apart := false, narrowed := true }
def FnExactContainsIntUptoSaid : Prop := fnExactContainsIntUptoRow.holds Try.pinned (OpenSpec.upto fnExactContainsIntSpec)

/-- 'laws.FnIndexIsFirst', WHERE WHAT IT READS IS OF BULK AT MOST 1048576: true; the input reads as it did. -/
def fnIndexIsFirstUptoRow : OpenClaim := { program := "yteijfgijmdighaa", sum := "05e468dece89e92c71980e0af65ec41f1af9b76ab515af07e01a4e2b0e72c0bf", func := "loop.example/lib-g01184/laws.FnIndexIsFirst", spec := "fnIndexIsFirst", apart := false, narrowed := true }
def FnIndexIsFirstUptoSaid : Prop := fnIndexIsFirstUptoRow.holds Try.pinned (OpenSpec.upto fnIndexIsFirstSpec)

/-- 'laws.FnIndexOfEach', WHERE WHAT IT READS IS OF BULK AT MOST 1048576: true; the input reads as it did. -/
def fnIndexOfEachUptoRow : OpenClaim := { program := "yteijfgijmdighaa", sum := "05e468dece89e92c71980e0af65ec41f1af9b76ab515af07e01a4e2b0e72c0bf", func := "loop.example/lib-g01184/laws.FnIndexOfEach", spec := "fnIndexOfEach", unfollowed := true, recurses := true, apart := false, narrowed := true }
def FnIndexOfEachUptoSaid : Prop := fnIndexOfEachUptoRow.holds Try.pinned (OpenSpec.upto fnIndexOfEachSpec)

/-- 'laws.FnExactReverseInts', WHERE WHAT IT READS IS OF BULK AT MOST 1048576: true; the input reads as it did. -/
def fnExactReverseIntsUptoRow : OpenClaim := { program := "yteijfgijmdighaa", sum := "05e468dece89e92c71980e0af65ec41f1af9b76ab515af07e01a4e2b0e72c0bf", func := "loop.example/lib-g01184/laws.FnExactReverseInts", spec := "fnExactReverseInts", apart := false, narrowed := true }
def FnExactReverseIntsUptoSaid : Prop := fnExactReverseIntsUptoRow.holds Try.pinned (OpenSpec.upto fnExactReverseIntsSpec)

/-- 'laws.FnReverseOfJoined', WHERE WHAT IT READS IS OF BULK AT MOST 1048576: true; the input reads as it did. -/
def fnReverseOfJoinedUptoRow : OpenClaim := { program := "yteijfgijmdighaa", sum := "05e468dece89e92c71980e0af65ec41f1af9b76ab515af07e01a4e2b0e72c0bf", func := "loop.example/lib-g01184/laws.FnReverseOfJoined", spec := "fnReverseOfJoined", apart := false, narrowed := true }
def FnReverseOfJoinedUptoSaid : Prop := fnReverseOfJoinedUptoRow.holds Try.pinned (OpenSpec.upto fnReverseOfJoinedSpec)

/-- 'laws.FnReverseTwice', WHERE WHAT IT READS IS OF BULK AT MOST 1048576: true; the input reads as it did. -/
def fnReverseTwiceUptoRow : OpenClaim := { program := "yteijfgijmdighaa", sum := "05e468dece89e92c71980e0af65ec41f1af9b76ab515af07e01a4e2b0e72c0bf", func := "loop.example/lib-g01184/laws.FnReverseTwice", spec := "fnReverseTwice", apart := false, narrowed := true }
def FnReverseTwiceUptoSaid : Prop := fnReverseTwiceUptoRow.holds Try.pinned (OpenSpec.upto fnReverseTwiceSpec)

/-- 'laws.FnExactReverseParts', WHERE WHAT IT READS IS OF BULK AT MOST 1048576: true; the input reads as it did. -/
def fnExactReversePartsUptoRow : OpenClaim := { program := "yteijfgijmdighaa", sum := "05e468dece89e92c71980e0af65ec41f1af9b76ab515af07e01a4e2b0e72c0bf", func := "loop.example/lib-g01184/laws.FnExactReverseParts", spec := "fnExactReverseParts", apart := false, narrowed := true }
def FnExactReversePartsUptoSaid : Prop := fnExactReversePartsUptoRow.holds Try.pinned (OpenSpec.upto fnExactReversePartsSpec)

/-- 'laws.FnReversePartsBack', WHERE WHAT IT READS IS OF BULK AT MOST 1048576: true; the input reads as it did. -/
def fnReversePartsBackUptoRow : OpenClaim := { program := "yteijfgijmdighaa", sum := "05e468dece89e92c71980e0af65ec41f1af9b76ab515af07e01a4e2b0e72c0bf", func := "loop.example/lib-g01184/laws.FnReversePartsBack", spec := "fnReversePartsBack", apart := false, narrowed := true }
def FnReversePartsBackUptoSaid : Prop := fnReversePartsBackUptoRow.holds Try.pinned (OpenSpec.upto fnReversePartsBackSpec)

/-- 'laws.FnRotateByReverse', WHERE WHAT IT READS IS OF BULK AT MOST 1048576: true; the input reads as it did. -/
def fnRotateByReverseUptoRow : OpenClaim := { program := "yteijfgijmdighaa", sum := "05e468dece89e92c71980e0af65ec41f1af9b76ab515af07e01a4e2b0e72c0bf", func := "loop.example/lib-g01184/laws.FnRotateByReverse", spec := "fnRotateByReverse", apart := false, narrowed := true }
def FnRotateByReverseUptoSaid : Prop := fnRotateByReverseUptoRow.holds Try.pinned (OpenSpec.upto fnRotateByReverseSpec)

end Rows
end Go.Proofs.Yteijfgijmdighaa
