/-
  No cell of these rows narrows 'for every input' (looked for: loops, veiled, ifaces, maps, wideKeys, modest, calm, conditions, laid).
  DERIVED. THE GIVEN ROWS OF THIS SEAT. 8 by the template 'for every input the law returns true; each argument reads behind the call as it read before'; 0 by the template 'total and deterministic' (their statements: YtjmceapdokkleaaTotals.lean).
  GIVEN WITH THE SEED: the statements are not yours to turn. If you find one false, say at which input.
  Laid BY PROGRAM, IN A SANDBOX (cutbox-rows.mjs): the forced cells as the released guide's own fill.sh prints them over the translation 763e5eb086a381aa… (all of the seat's roots in one cut). By AI agents, Wed Nov 11 2026. No macro, syntax, notation, axiom, sorry.
-/
import Derived.Test.YtjmceapdokkleaaChecked
import GoSem.Claim
import GoSem.ClaimJoined
import GoSem.ClaimMapViews
import Derived.JoinedTies
import Derived.KernelRfl
namespace Go.Proofs.Ytjmceapdokkleaa
/- THE CELL 'sum', in the pinned program and in every row, IS THE sha256 OF THE DUMP (.gsa) THAT YtjmceapdokkleaaProg.lean LOADS. Nothing in Lean hashes anything: it is a label: what it is worth is what the hold of that sum in a sandbox is worth. -/
noncomputable def Try.pinned : Pinned := { name := "ytjmceapdokkleaa", sum := "763e5eb086a381aae48242fc9ca6cdbe5c04b25b98cddafba22a626122eceb0a", checked := Try.checked }
namespace Rows
def none {H : Type} : Left H := { results := [], args := [] }

/-- 'laws.FnConcatLengths': WHATEVER THE INPUT: true; the input reads as it did. -/
def fnConcatLengthsSpec : ChangeSpec := { name := "fnConcatLengths", fn := fun _ => fun
  | [d] => { results := [.lit (.bool true)], args := [d] }
  | _ => none }
def fnConcatLengthsRow : OpenClaim := { program := "ytjmceapdokkleaa", sum := "763e5eb086a381aae48242fc9ca6cdbe5c04b25b98cddafba22a626122eceb0a", func := "loop.example/lib-g01184/laws.FnConcatLengths", spec := "fnConcatLengths", apart := false }
def FnConcatLengthsSaid : Prop := fnConcatLengthsRow.holds Try.pinned (OpenSpec.ofChange fnConcatLengthsSpec)

/-- ITS FALSE NEIGHBOUR: 'it returns false'. Refute it at one input. -/
def fnConcatLengthsWrong : ChangeSpec := { name := "fnConcatLengths", fn := fun _ => fun
  | [d] => { results := [.lit (.bool false)], args := [d] }
  | _ => none }
def FnConcatLengthsWrongFalsely : Prop := fnConcatLengthsRow.holds Try.pinned (OpenSpec.ofChange fnConcatLengthsWrong)

/-- 'laws.FnExactConcatInts': WHATEVER THE INPUT: true; the input reads as it did. -/
def fnExactConcatIntsSpec : ChangeSpec := { name := "fnExactConcatInts", fn := fun _ => fun
  | [d] => { results := [.lit (.bool true)], args := [d] }
  | _ => none }
def fnExactConcatIntsRow : OpenClaim := { program := "ytjmceapdokkleaa", sum := "763e5eb086a381aae48242fc9ca6cdbe5c04b25b98cddafba22a626122eceb0a", func := "loop.example/lib-g01184/laws.FnExactConcatInts", spec := "fnExactConcatInts", apart := false }
def FnExactConcatIntsSaid : Prop := fnExactConcatIntsRow.holds Try.pinned (OpenSpec.ofChange fnExactConcatIntsSpec)

/-- ITS FALSE NEIGHBOUR: 'it returns false'. Refute it at one input. -/
def fnExactConcatIntsWrong : ChangeSpec := { name := "fnExactConcatInts", fn := fun _ => fun
  | [d] => { results := [.lit (.bool false)], args := [d] }
  | _ => none }
def FnExactConcatIntsWrongFalsely : Prop := fnExactConcatIntsRow.holds Try.pinned (OpenSpec.ofChange fnExactConcatIntsWrong)

/-- 'laws.FnExactChunkInts': WHATEVER THE INPUT: true; the input reads as it did. -/
def fnExactChunkIntsSpec : ChangeSpec := { name := "fnExactChunkInts", fn := fun _ => fun
  | [d1, d2] => { results := [.lit (.bool true)], args := [d1, d2] }
  | _ => none }
def fnExactChunkIntsRow : OpenClaim := { program := "ytjmceapdokkleaa", sum := "763e5eb086a381aae48242fc9ca6cdbe5c04b25b98cddafba22a626122eceb0a", func := "loop.example/lib-g01184/laws.FnExactChunkInts", spec := "fnExactChunkInts", unfollowed := true, recurses := true, apart := false }
def FnExactChunkIntsSaid : Prop := fnExactChunkIntsRow.holds Try.pinned (OpenSpec.ofChange fnExactChunkIntsSpec)

/-- ITS FALSE NEIGHBOUR: 'it returns false'. Refute it at one input. -/
def fnExactChunkIntsWrong : ChangeSpec := { name := "fnExactChunkInts", fn := fun _ => fun
  | [d1, d2] => { results := [.lit (.bool false)], args := [d1, d2] }
  | _ => none }
def FnExactChunkIntsWrongFalsely : Prop := fnExactChunkIntsRow.holds Try.pinned (OpenSpec.ofChange fnExactChunkIntsWrong)

/-- 'laws.FnRepeatInts': WHATEVER THE INPUT: true; the input reads as it did. -/
def fnRepeatIntsSpec : ChangeSpec := { name := "fnRepeatInts", fn := fun _ => fun
  | [d1, d2] => { results := [.lit (.bool true)], args := [d1, d2] }
  | _ => none }
def fnRepeatIntsRow : OpenClaim := { program := "ytjmceapdokkleaa", sum := "763e5eb086a381aae48242fc9ca6cdbe5c04b25b98cddafba22a626122eceb0a", func := "loop.example/lib-g01184/laws.FnRepeatInts", spec := "fnRepeatInts", unfollowed := true, recurses := true, apart := false }
def FnRepeatIntsSaid : Prop := fnRepeatIntsRow.holds Try.pinned (OpenSpec.ofChange fnRepeatIntsSpec)

/-- ITS FALSE NEIGHBOUR: 'it returns false'. Refute it at one input. -/
def fnRepeatIntsWrong : ChangeSpec := { name := "fnRepeatInts", fn := fun _ => fun
  | [d1, d2] => { results := [.lit (.bool false)], args := [d1, d2] }
  | _ => none }
def FnRepeatIntsWrongFalsely : Prop := fnRepeatIntsRow.holds Try.pinned (OpenSpec.ofChange fnRepeatIntsWrong)

/-- 'laws.FnRepeatIsNew': WHATEVER THE INPUT: true; the input reads as it did. -/
def fnRepeatIsNewSpec : ChangeSpec := { name := "fnRepeatIsNew", fn := fun _ => fun
  | [d1, d2] => { results := [.lit (.bool true)], args := [d1, d2] }
  | _ => none }
def fnRepeatIsNewRow : OpenClaim := { program := "ytjmceapdokkleaa", sum := "763e5eb086a381aae48242fc9ca6cdbe5c04b25b98cddafba22a626122eceb0a", func := "loop.example/lib-g01184/laws.FnRepeatIsNew", spec := "fnRepeatIsNew", unfollowed := true, recurses := true, apart := false }
def FnRepeatIsNewSaid : Prop := fnRepeatIsNewRow.holds Try.pinned (OpenSpec.ofChange fnRepeatIsNewSpec)

/-- ITS FALSE NEIGHBOUR: 'it returns false'. Refute it at one input. -/
def fnRepeatIsNewWrong : ChangeSpec := { name := "fnRepeatIsNew", fn := fun _ => fun
  | [d1, d2] => { results := [.lit (.bool false)], args := [d1, d2] }
  | _ => none }
def FnRepeatIsNewWrongFalsely : Prop := fnRepeatIsNewRow.holds Try.pinned (OpenSpec.ofChange fnRepeatIsNewWrong)

/-- 'laws.FnChunksJoined': WHATEVER THE INPUT: true; the input reads as it did. -/
def fnChunksJoinedSpec : ChangeSpec := { name := "fnChunksJoined", fn := fun _ => fun
  | [d1, d2] => { results := [.lit (.bool true)], args := [d1, d2] }
  | _ => none }
def fnChunksJoinedRow : OpenClaim := { program := "ytjmceapdokkleaa", sum := "763e5eb086a381aae48242fc9ca6cdbe5c04b25b98cddafba22a626122eceb0a", func := "loop.example/lib-g01184/laws.FnChunksJoined", spec := "fnChunksJoined", unfollowed := true, recurses := true, apart := false }
def FnChunksJoinedSaid : Prop := fnChunksJoinedRow.holds Try.pinned (OpenSpec.ofChange fnChunksJoinedSpec)

/-- ITS FALSE NEIGHBOUR: 'it returns false'. Refute it at one input. -/
def fnChunksJoinedWrong : ChangeSpec := { name := "fnChunksJoined", fn := fun _ => fun
  | [d1, d2] => { results := [.lit (.bool false)], args := [d1, d2] }
  | _ => none }
def FnChunksJoinedWrongFalsely : Prop := fnChunksJoinedRow.holds Try.pinned (OpenSpec.ofChange fnChunksJoinedWrong)

/-- 'laws.FnRepeatIsConcat': WHATEVER THE INPUT: true; the input reads as it did. -/
def fnRepeatIsConcatSpec : ChangeSpec := { name := "fnRepeatIsConcat", fn := fun _ => fun
  | [d1, d2] => { results := [.lit (.bool true)], args := [d1, d2] }
  | _ => none }
def fnRepeatIsConcatRow : OpenClaim := { program := "ytjmceapdokkleaa", sum := "763e5eb086a381aae48242fc9ca6cdbe5c04b25b98cddafba22a626122eceb0a", func := "loop.example/lib-g01184/laws.FnRepeatIsConcat", spec := "fnRepeatIsConcat", unfollowed := true, recurses := true, apart := false }
def FnRepeatIsConcatSaid : Prop := fnRepeatIsConcatRow.holds Try.pinned (OpenSpec.ofChange fnRepeatIsConcatSpec)

/-- ITS FALSE NEIGHBOUR: 'it returns false'. Refute it at one input. -/
def fnRepeatIsConcatWrong : ChangeSpec := { name := "fnRepeatIsConcat", fn := fun _ => fun
  | [d1, d2] => { results := [.lit (.bool false)], args := [d1, d2] }
  | _ => none }
def FnRepeatIsConcatWrongFalsely : Prop := fnRepeatIsConcatRow.holds Try.pinned (OpenSpec.ofChange fnRepeatIsConcatWrong)

/-- 'laws.FnExactCompactStrings': WHATEVER THE INPUT: true; the input reads as it did. -/
def fnExactCompactStringsSpec : ChangeSpec := { name := "fnExactCompactStrings", fn := fun _ => fun
  | [d] => { results := [.lit (.bool true)], args := [d] }
  | _ => none }
def fnExactCompactStringsRow : OpenClaim := { program := "ytjmceapdokkleaa", sum := "763e5eb086a381aae48242fc9ca6cdbe5c04b25b98cddafba22a626122eceb0a", func := "loop.example/lib-g01184/laws.FnExactCompactStrings", spec := "fnExactCompactStrings", apart := false }
def FnExactCompactStringsSaid : Prop := fnExactCompactStringsRow.holds Try.pinned (OpenSpec.ofChange fnExactCompactStringsSpec)

/-- ITS FALSE NEIGHBOUR: 'it returns false'. Refute it at one input. -/
def fnExactCompactStringsWrong : ChangeSpec := { name := "fnExactCompactStrings", fn := fun _ => fun
  | [d] => { results := [.lit (.bool false)], args := [d] }
  | _ => none }
def FnExactCompactStringsWrongFalsely : Prop := fnExactCompactStringsRow.holds Try.pinned (OpenSpec.ofChange fnExactCompactStringsWrong)

/- THE SECOND FORM. 'bulk': how many values and letters a reading holds, each counted each time it is reached (what is shared counts as often as it is met; a slice's spare places count too). A statement '..UptoSaid' is the law's where the arguments, and the package variables that the reading takes, are together of bulk at most 1048576: NARROWER than '..Said'. Prove '..Said' where nothing that the law and all that it calls make is longer than what came in: it says more and counts as full. Else prove '..UptoSaid'. A law counts once. -/
mutual
def uptoBulk {H : Type} : DataW H → Nat
  | .lit (.string bytes) => bytes.length + 1
  | .lit _ => 1
  | .nil => 1
  | .ptr d => uptoBulk d + 1
  | .slice elems spare => uptoBulkAll elems + uptoBulkAll spare + 1
  | .agg parts => uptoBulkAll parts + 1
  | .iface _ d => uptoBulk d + 1
  | .map entries => uptoBulkEntries entries + 1
  | .held _ => 1
def uptoBulkAll {H : Type} : List (DataW H) → Nat
  | [] => 0
  | d :: r => uptoBulk d + uptoBulkAll r
def uptoBulkEntries {H : Type} : List (Lit × DataW H) → Nat
  | [] => 0
  | x :: r => uptoBulkEntry x + uptoBulkEntries r
def uptoBulkEntry {H : Type} : Lit × DataW H → Nat
  | (.string bytes, d) => bytes.length + uptoBulk d + 1
  | (_, d) => uptoBulk d + 1
 end
def uptoSmall : (H : Type) → List (DataW H) → Bool := fun _ ds => decide (uptoBulkAll ds ≤ 1048576)
def OpenSpec.upto (s : _root_.Go.ChangeSpec) : _root_.Go.OpenSpec := { _root_.Go.OpenSpec.ofChange s with cond := some uptoSmall }

/-- 'laws.FnConcatLengths', WHERE WHAT IT READS IS OF BULK AT MOST 1048576: true; the input reads as it did. -/
def fnConcatLengthsUptoRow : OpenClaim := { program := "ytjmceapdokkleaa", sum := "763e5eb086a381aae48242fc9ca6cdbe5c04b25b98cddafba22a626122eceb0a", func := "loop.example/lib-g01184/laws.FnConcatLengths", spec := "fnConcatLengths", apart := false, narrowed := true }
def FnConcatLengthsUptoSaid : Prop := fnConcatLengthsUptoRow.holds Try.pinned (OpenSpec.upto fnConcatLengthsSpec)

/-- 'laws.FnExactConcatInts', WHERE WHAT IT READS IS OF BULK AT MOST 1048576: true; the input reads as it did. -/
def fnExactConcatIntsUptoRow : OpenClaim := { program := "ytjmceapdokkleaa", sum := "763e5eb086a381aae48242fc9ca6cdbe5c04b25b98cddafba22a626122eceb0a", func := "loop.example/lib-g01184/laws.FnExactConcatInts", spec := "fnExactConcatInts", apart := false, narrowed := true }
def FnExactConcatIntsUptoSaid : Prop := fnExactConcatIntsUptoRow.holds Try.pinned (OpenSpec.upto fnExactConcatIntsSpec)

/-- 'laws.FnExactChunkInts', WHERE WHAT IT READS IS OF BULK AT MOST 1048576: true; the input reads as it did. -/
def fnExactChunkIntsUptoRow : OpenClaim := { program := "ytjmceapdokkleaa", sum := "763e5eb086a381aae48242fc9ca6cdbe5c04b25b98cddafba22a626122eceb0a", func := "loop.example/lib-g01184/laws.FnExactChunkInts", spec := "fnExactChunkInts", unfollowed := true, recurses := true, apart := false, narrowed := true }
def FnExactChunkIntsUptoSaid : Prop := fnExactChunkIntsUptoRow.holds Try.pinned (OpenSpec.upto fnExactChunkIntsSpec)

/-- 'laws.FnRepeatInts', WHERE WHAT IT READS IS OF BULK AT MOST 1048576: true; the input reads as it did. -/
def fnRepeatIntsUptoRow : OpenClaim := { program := "ytjmceapdokkleaa", sum := "763e5eb086a381aae48242fc9ca6cdbe5c04b25b98cddafba22a626122eceb0a", func := "loop.example/lib-g01184/laws.FnRepeatInts", spec := "fnRepeatInts", unfollowed := true, recurses := true, apart := false, narrowed := true }
def FnRepeatIntsUptoSaid : Prop := fnRepeatIntsUptoRow.holds Try.pinned (OpenSpec.upto fnRepeatIntsSpec)

/-- 'laws.FnRepeatIsNew', WHERE WHAT IT READS IS OF BULK AT MOST 1048576: true; the input reads as it did. -/
def fnRepeatIsNewUptoRow : OpenClaim := { program := "ytjmceapdokkleaa", sum := "763e5eb086a381aae48242fc9ca6cdbe5c04b25b98cddafba22a626122eceb0a", func := "loop.example/lib-g01184/laws.FnRepeatIsNew", spec := "fnRepeatIsNew", unfollowed := true, recurses := true, apart := false, narrowed := true }
def FnRepeatIsNewUptoSaid : Prop := fnRepeatIsNewUptoRow.holds Try.pinned (OpenSpec.upto fnRepeatIsNewSpec)

/-- 'laws.FnChunksJoined', WHERE WHAT IT READS IS OF BULK AT MOST 1048576: true; the input reads as it did. -/
def fnChunksJoinedUptoRow : OpenClaim := { program := "ytjmceapdokkleaa", sum := "763e5eb086a381aae48242fc9ca6cdbe5c04b25b98cddafba22a626122eceb0a", func := "loop.example/lib-g01184/laws.FnChunksJoined", spec := "fnChunksJoined", unfollowed := true, recurses := true, apart := false, narrowed := true }
def FnChunksJoinedUptoSaid : Prop := fnChunksJoinedUptoRow.holds Try.pinned (OpenSpec.upto fnChunksJoinedSpec)

/-- 'laws.FnRepeatIsConcat', WHERE WHAT IT READS IS OF BULK AT MOST 1048576: true; the input reads as it did. -/
def fnRepeatIsConcatUptoRow : OpenClaim := { program := "ytjmceapdokkleaa", sum := "763e5eb086a381aae48242fc9ca6cdbe5c04b25b98cddafba22a626122eceb0a", func := "loop.example/lib-g01184/laws.FnRepeatIsConcat", spec := "fnRepeatIsConcat", unfollowed := true, recurses := true, apart := false, narrowed := true }
def FnRepeatIsConcatUptoSaid : Prop := fnRepeatIsConcatUptoRow.holds Try.pinned (OpenSpec.upto fnRepeatIsConcatSpec)

/-- 'laws.FnExactCompactStrings', WHERE WHAT IT READS IS OF BULK AT MOST 1048576: true; the input reads as it did. -/
def fnExactCompactStringsUptoRow : OpenClaim := { program := "ytjmceapdokkleaa", sum := "763e5eb086a381aae48242fc9ca6cdbe5c04b25b98cddafba22a626122eceb0a", func := "loop.example/lib-g01184/laws.FnExactCompactStrings", spec := "fnExactCompactStrings", apart := false, narrowed := true }
def FnExactCompactStringsUptoSaid : Prop := fnExactCompactStringsUptoRow.holds Try.pinned (OpenSpec.upto fnExactCompactStringsSpec)

end Rows
end Go.Proofs.Ytjmceapdokkleaa
