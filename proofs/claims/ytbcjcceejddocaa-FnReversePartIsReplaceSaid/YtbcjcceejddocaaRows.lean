/-
  No cell of these rows narrows 'for every input' (looked for: loops, veiled, ifaces, maps, wideKeys, modest, calm, conditions, laid).
  DERIVED. THE GIVEN ROWS OF THIS SEAT. 12 by the template 'for every input the law returns true; each argument reads behind the call as it read before'; 0 by the template 'total and deterministic' (their statements: YtbcjcceejddocaaTotals.lean).
  GIVEN WITH THE SEED: the statements are not yours to turn. If you find one false, say at which input.
  Laid BY PROGRAM, IN A SANDBOX (cutbox-rows.mjs): the forced cells as the released guide's own fill.sh prints them over the translation b8076f1d2b637aed… (all of the seat's roots in one cut). By AI agents, Wed Nov 11 2026. No macro, syntax, notation, axiom, sorry.
-/
import Derived.Test.YtbcjcceejddocaaChecked
import GoSem.Claim
import GoSem.ClaimJoined
import GoSem.ClaimMapViews
import Derived.JoinedTies
import Derived.KernelRfl
namespace Go.Proofs.Ytbcjcceejddocaa
/- THE CELL 'sum', in the pinned program and in every row, IS THE sha256 OF THE DUMP (.gsa) THAT YtbcjcceejddocaaProg.lean LOADS. Nothing in Lean hashes anything: it is a label: what it is worth is what the hold of that sum in a sandbox is worth. -/
noncomputable def Try.pinned : Pinned := { name := "ytbcjcceejddocaa", sum := "b8076f1d2b637aedf64433bb98b3abf549432e332ada938a28767f93461bc4c6", checked := Try.checked }
namespace Rows
def none {H : Type} : Left H := { results := [], args := [] }

/-- 'laws.FnInsertBelow': WHATEVER THE INPUT: true; the input reads as it did. -/
def fnInsertBelowSpec : ChangeSpec := { name := "fnInsertBelow", fn := fun _ => fun
  | [d1, d2, d3] => { results := [.lit (.bool true)], args := [d1, d2, d3] }
  | _ => none }
def fnInsertBelowRow : OpenClaim := { program := "ytbcjcceejddocaa", sum := "b8076f1d2b637aedf64433bb98b3abf549432e332ada938a28767f93461bc4c6", func := "loop.example/lib-g01184/laws.FnInsertBelow", spec := "fnInsertBelow", inPlace := ["slices.overlaps[int]"], unfollowed := true, recurses := true, apart := false }
def FnInsertBelowSaid : Prop := fnInsertBelowRow.holds Try.pinned (OpenSpec.ofChange fnInsertBelowSpec)

/-- ITS FALSE NEIGHBOUR: 'it returns false'. Refute it at one input. -/
def fnInsertBelowWrong : ChangeSpec := { name := "fnInsertBelow", fn := fun _ => fun
  | [d1, d2, d3] => { results := [.lit (.bool false)], args := [d1, d2, d3] }
  | _ => none }
def FnInsertBelowWrongFalsely : Prop := fnInsertBelowRow.holds Try.pinned (OpenSpec.ofChange fnInsertBelowWrong)

/-- 'laws.FnInsertInts': WHATEVER THE INPUT: true; the input reads as it did. -/
def fnInsertIntsSpec : ChangeSpec := { name := "fnInsertInts", fn := fun _ => fun
  | [d1, d2, d3] => { results := [.lit (.bool true)], args := [d1, d2, d3] }
  | _ => none }
def fnInsertIntsRow : OpenClaim := { program := "ytbcjcceejddocaa", sum := "b8076f1d2b637aedf64433bb98b3abf549432e332ada938a28767f93461bc4c6", func := "loop.example/lib-g01184/laws.FnInsertInts", spec := "fnInsertInts", inPlace := ["slices.overlaps[int]"], unfollowed := true, recurses := true, apart := false }
def FnInsertIntsSaid : Prop := fnInsertIntsRow.holds Try.pinned (OpenSpec.ofChange fnInsertIntsSpec)

/-- ITS FALSE NEIGHBOUR: 'it returns false'. Refute it at one input. -/
def fnInsertIntsWrong : ChangeSpec := { name := "fnInsertInts", fn := fun _ => fun
  | [d1, d2, d3] => { results := [.lit (.bool false)], args := [d1, d2, d3] }
  | _ => none }
def FnInsertIntsWrongFalsely : Prop := fnInsertIntsRow.holds Try.pinned (OpenSpec.ofChange fnInsertIntsWrong)

/-- 'laws.FnInsertPlaces': WHATEVER THE INPUT: true; the input reads as it did. -/
def fnInsertPlacesSpec : ChangeSpec := { name := "fnInsertPlaces", fn := fun _ => fun
  | [d1, d2, d3] => { results := [.lit (.bool true)], args := [d1, d2, d3] }
  | _ => none }
def fnInsertPlacesRow : OpenClaim := { program := "ytbcjcceejddocaa", sum := "b8076f1d2b637aedf64433bb98b3abf549432e332ada938a28767f93461bc4c6", func := "loop.example/lib-g01184/laws.FnInsertPlaces", spec := "fnInsertPlaces", inPlace := ["slices.overlaps[int]"], unfollowed := true, recurses := true, apart := false }
def FnInsertPlacesSaid : Prop := fnInsertPlacesRow.holds Try.pinned (OpenSpec.ofChange fnInsertPlacesSpec)

/-- ITS FALSE NEIGHBOUR: 'it returns false'. Refute it at one input. -/
def fnInsertPlacesWrong : ChangeSpec := { name := "fnInsertPlaces", fn := fun _ => fun
  | [d1, d2, d3] => { results := [.lit (.bool false)], args := [d1, d2, d3] }
  | _ => none }
def FnInsertPlacesWrongFalsely : Prop := fnInsertPlacesRow.holds Try.pinned (OpenSpec.ofChange fnInsertPlacesWrong)

/-- 'laws.FnDeleteInserted': WHATEVER THE INPUT: true; the input reads as it did. -/
def fnDeleteInsertedSpec : ChangeSpec := { name := "fnDeleteInserted", fn := fun _ => fun
  | [d1, d2, d3] => { results := [.lit (.bool true)], args := [d1, d2, d3] }
  | _ => none }
def fnDeleteInsertedRow : OpenClaim := { program := "ytbcjcceejddocaa", sum := "b8076f1d2b637aedf64433bb98b3abf549432e332ada938a28767f93461bc4c6", func := "loop.example/lib-g01184/laws.FnDeleteInserted", spec := "fnDeleteInserted", inPlace := ["slices.overlaps[int]"], unfollowed := true, recurses := true, apart := false }
def FnDeleteInsertedSaid : Prop := fnDeleteInsertedRow.holds Try.pinned (OpenSpec.ofChange fnDeleteInsertedSpec)

/-- ITS FALSE NEIGHBOUR: 'it returns false'. Refute it at one input. -/
def fnDeleteInsertedWrong : ChangeSpec := { name := "fnDeleteInserted", fn := fun _ => fun
  | [d1, d2, d3] => { results := [.lit (.bool false)], args := [d1, d2, d3] }
  | _ => none }
def FnDeleteInsertedWrongFalsely : Prop := fnDeleteInsertedRow.holds Try.pinned (OpenSpec.ofChange fnDeleteInsertedWrong)

/-- 'laws.FnInsertDeleted': WHATEVER THE INPUT: true; the input reads as it did. -/
def fnInsertDeletedSpec : ChangeSpec := { name := "fnInsertDeleted", fn := fun _ => fun
  | [d1, d2, d3] => { results := [.lit (.bool true)], args := [d1, d2, d3] }
  | _ => none }
def fnInsertDeletedRow : OpenClaim := { program := "ytbcjcceejddocaa", sum := "b8076f1d2b637aedf64433bb98b3abf549432e332ada938a28767f93461bc4c6", func := "loop.example/lib-g01184/laws.FnInsertDeleted", spec := "fnInsertDeleted", inPlace := ["slices.overlaps[int]"], unfollowed := true, recurses := true, apart := false }
def FnInsertDeletedSaid : Prop := fnInsertDeletedRow.holds Try.pinned (OpenSpec.ofChange fnInsertDeletedSpec)

/-- ITS FALSE NEIGHBOUR: 'it returns false'. Refute it at one input. -/
def fnInsertDeletedWrong : ChangeSpec := { name := "fnInsertDeleted", fn := fun _ => fun
  | [d1, d2, d3] => { results := [.lit (.bool false)], args := [d1, d2, d3] }
  | _ => none }
def FnInsertDeletedWrongFalsely : Prop := fnInsertDeletedRow.holds Try.pinned (OpenSpec.ofChange fnInsertDeletedWrong)

/-- 'laws.FnReplaceIsDeleteInsert': WHATEVER THE INPUT: true; the input reads as it did. -/
def fnReplaceIsDeleteInsertSpec : ChangeSpec := { name := "fnReplaceIsDeleteInsert", fn := fun _ => fun
  | [d1, d2, d3, d4] => { results := [.lit (.bool true)], args := [d1, d2, d3, d4] }
  | _ => none }
def fnReplaceIsDeleteInsertRow : OpenClaim := { program := "ytbcjcceejddocaa", sum := "b8076f1d2b637aedf64433bb98b3abf549432e332ada938a28767f93461bc4c6", func := "loop.example/lib-g01184/laws.FnReplaceIsDeleteInsert", spec := "fnReplaceIsDeleteInsert", inPlace := ["slices.overlaps[int]"], unfollowed := true, recurses := true, apart := false }
def FnReplaceIsDeleteInsertSaid : Prop := fnReplaceIsDeleteInsertRow.holds Try.pinned (OpenSpec.ofChange fnReplaceIsDeleteInsertSpec)

/-- ITS FALSE NEIGHBOUR: 'it returns false'. Refute it at one input. -/
def fnReplaceIsDeleteInsertWrong : ChangeSpec := { name := "fnReplaceIsDeleteInsert", fn := fun _ => fun
  | [d1, d2, d3, d4] => { results := [.lit (.bool false)], args := [d1, d2, d3, d4] }
  | _ => none }
def FnReplaceIsDeleteInsertWrongFalsely : Prop := fnReplaceIsDeleteInsertRow.holds Try.pinned (OpenSpec.ofChange fnReplaceIsDeleteInsertWrong)

/-- 'laws.FnExactReplaceInts': WHATEVER THE INPUT: true; the input reads as it did. -/
def fnExactReplaceIntsSpec : ChangeSpec := { name := "fnExactReplaceInts", fn := fun _ => fun
  | [d1, d2, d3, d4] => { results := [.lit (.bool true)], args := [d1, d2, d3, d4] }
  | _ => none }
def fnExactReplaceIntsRow : OpenClaim := { program := "ytbcjcceejddocaa", sum := "b8076f1d2b637aedf64433bb98b3abf549432e332ada938a28767f93461bc4c6", func := "loop.example/lib-g01184/laws.FnExactReplaceInts", spec := "fnExactReplaceInts", inPlace := ["slices.overlaps[int]"], unfollowed := true, recurses := true, apart := false }
def FnExactReplaceIntsSaid : Prop := fnExactReplaceIntsRow.holds Try.pinned (OpenSpec.ofChange fnExactReplaceIntsSpec)

/-- ITS FALSE NEIGHBOUR: 'it returns false'. Refute it at one input. -/
def fnExactReplaceIntsWrong : ChangeSpec := { name := "fnExactReplaceInts", fn := fun _ => fun
  | [d1, d2, d3, d4] => { results := [.lit (.bool false)], args := [d1, d2, d3, d4] }
  | _ => none }
def FnExactReplaceIntsWrongFalsely : Prop := fnExactReplaceIntsRow.holds Try.pinned (OpenSpec.ofChange fnExactReplaceIntsWrong)

/-- 'laws.FnReplaceBack': WHATEVER THE INPUT: true; the input reads as it did. -/
def fnReplaceBackSpec : ChangeSpec := { name := "fnReplaceBack", fn := fun _ => fun
  | [d1, d2, d3, d4] => { results := [.lit (.bool true)], args := [d1, d2, d3, d4] }
  | _ => none }
def fnReplaceBackRow : OpenClaim := { program := "ytbcjcceejddocaa", sum := "b8076f1d2b637aedf64433bb98b3abf549432e332ada938a28767f93461bc4c6", func := "loop.example/lib-g01184/laws.FnReplaceBack", spec := "fnReplaceBack", inPlace := ["slices.overlaps[int]"], unfollowed := true, recurses := true, apart := false }
def FnReplaceBackSaid : Prop := fnReplaceBackRow.holds Try.pinned (OpenSpec.ofChange fnReplaceBackSpec)

/-- ITS FALSE NEIGHBOUR: 'it returns false'. Refute it at one input. -/
def fnReplaceBackWrong : ChangeSpec := { name := "fnReplaceBack", fn := fun _ => fun
  | [d1, d2, d3, d4] => { results := [.lit (.bool false)], args := [d1, d2, d3, d4] }
  | _ => none }
def FnReplaceBackWrongFalsely : Prop := fnReplaceBackRow.holds Try.pinned (OpenSpec.ofChange fnReplaceBackWrong)

/-- 'laws.FnReplaceRestPanics': WHATEVER THE INPUT: true; the input reads as it did. -/
def fnReplaceRestPanicsSpec : ChangeSpec := { name := "fnReplaceRestPanics", fn := fun _ => fun
  | [d1, d2, d3, d4] => { results := [.lit (.bool true)], args := [d1, d2, d3, d4] }
  | _ => none }
def fnReplaceRestPanicsRow : OpenClaim := { program := "ytbcjcceejddocaa", sum := "b8076f1d2b637aedf64433bb98b3abf549432e332ada938a28767f93461bc4c6", func := "loop.example/lib-g01184/laws.FnReplaceRestPanics", spec := "fnReplaceRestPanics", inPlace := ["slices.overlaps[int]"], unfollowed := true, recurses := true, apart := false }
def FnReplaceRestPanicsSaid : Prop := fnReplaceRestPanicsRow.holds Try.pinned (OpenSpec.ofChange fnReplaceRestPanicsSpec)

/-- ITS FALSE NEIGHBOUR: 'it returns false'. Refute it at one input. -/
def fnReplaceRestPanicsWrong : ChangeSpec := { name := "fnReplaceRestPanics", fn := fun _ => fun
  | [d1, d2, d3, d4] => { results := [.lit (.bool false)], args := [d1, d2, d3, d4] }
  | _ => none }
def FnReplaceRestPanicsWrongFalsely : Prop := fnReplaceRestPanicsRow.holds Try.pinned (OpenSpec.ofChange fnReplaceRestPanicsWrong)

/-- 'laws.FnReplaceZeroes': WHATEVER THE INPUT: true; the input reads as it did. -/
def fnReplaceZeroesSpec : ChangeSpec := { name := "fnReplaceZeroes", fn := fun _ => fun
  | [d1, d2, d3, d4] => { results := [.lit (.bool true)], args := [d1, d2, d3, d4] }
  | _ => none }
def fnReplaceZeroesRow : OpenClaim := { program := "ytbcjcceejddocaa", sum := "b8076f1d2b637aedf64433bb98b3abf549432e332ada938a28767f93461bc4c6", func := "loop.example/lib-g01184/laws.FnReplaceZeroes", spec := "fnReplaceZeroes", inPlace := ["slices.overlaps[int]"], unfollowed := true, recurses := true, apart := false }
def FnReplaceZeroesSaid : Prop := fnReplaceZeroesRow.holds Try.pinned (OpenSpec.ofChange fnReplaceZeroesSpec)

/-- ITS FALSE NEIGHBOUR: 'it returns false'. Refute it at one input. -/
def fnReplaceZeroesWrong : ChangeSpec := { name := "fnReplaceZeroes", fn := fun _ => fun
  | [d1, d2, d3, d4] => { results := [.lit (.bool false)], args := [d1, d2, d3, d4] }
  | _ => none }
def FnReplaceZeroesWrongFalsely : Prop := fnReplaceZeroesRow.holds Try.pinned (OpenSpec.ofChange fnReplaceZeroesWrong)

/-- 'laws.FnReversePartIsReplace': WHATEVER THE INPUT: true; the input reads as it did. -/
def fnReversePartIsReplaceSpec : ChangeSpec := { name := "fnReversePartIsReplace", fn := fun _ => fun
  | [d1, d2] => { results := [.lit (.bool true)], args := [d1, d2] }
  | _ => none }
def fnReversePartIsReplaceRow : OpenClaim := { program := "ytbcjcceejddocaa", sum := "b8076f1d2b637aedf64433bb98b3abf549432e332ada938a28767f93461bc4c6", func := "loop.example/lib-g01184/laws.FnReversePartIsReplace", spec := "fnReversePartIsReplace", inPlace := ["slices.overlaps[int]"], unfollowed := true, recurses := true, apart := false }
def FnReversePartIsReplaceSaid : Prop := fnReversePartIsReplaceRow.holds Try.pinned (OpenSpec.ofChange fnReversePartIsReplaceSpec)

/-- ITS FALSE NEIGHBOUR: 'it returns false'. Refute it at one input. -/
def fnReversePartIsReplaceWrong : ChangeSpec := { name := "fnReversePartIsReplace", fn := fun _ => fun
  | [d1, d2] => { results := [.lit (.bool false)], args := [d1, d2] }
  | _ => none }
def FnReversePartIsReplaceWrongFalsely : Prop := fnReversePartIsReplaceRow.holds Try.pinned (OpenSpec.ofChange fnReversePartIsReplaceWrong)

/-- 'laws.FnConcatIsInsert': WHATEVER THE INPUT: true; the input reads as it did. -/
def fnConcatIsInsertSpec : ChangeSpec := { name := "fnConcatIsInsert", fn := fun _ => fun
  | [d1, d2] => { results := [.lit (.bool true)], args := [d1, d2] }
  | _ => none }
def fnConcatIsInsertRow : OpenClaim := { program := "ytbcjcceejddocaa", sum := "b8076f1d2b637aedf64433bb98b3abf549432e332ada938a28767f93461bc4c6", func := "loop.example/lib-g01184/laws.FnConcatIsInsert", spec := "fnConcatIsInsert", inPlace := ["slices.overlaps[int]"], unfollowed := true, recurses := true, apart := false }
def FnConcatIsInsertSaid : Prop := fnConcatIsInsertRow.holds Try.pinned (OpenSpec.ofChange fnConcatIsInsertSpec)

/-- ITS FALSE NEIGHBOUR: 'it returns false'. Refute it at one input. -/
def fnConcatIsInsertWrong : ChangeSpec := { name := "fnConcatIsInsert", fn := fun _ => fun
  | [d1, d2] => { results := [.lit (.bool false)], args := [d1, d2] }
  | _ => none }
def FnConcatIsInsertWrongFalsely : Prop := fnConcatIsInsertRow.holds Try.pinned (OpenSpec.ofChange fnConcatIsInsertWrong)

/- THE SECOND FORM. 'bulk': how many values and letters a reading holds, each counted each time it is reached (what is shared counts as often as it is met; a slice's spare places count too). A statement '..UptoSaid' is the law's where the arguments, and the package variables that the reading takes, are together of bulk at most 1048576: NARROWER than '..Said'. Prove '..Said' where nothing that the law and all that it calls make is longer than what came in: it says more and counts as full. Else prove '..UptoSaid'. A law counts once. -/
mutual
def uptoBulk {H : Type} : DataW H → Nat
  | .lit (.string bytes) => bytes.length + 1
  | .lit _ => 1
  | .nil => 1
  | .ptr d => uptoBulk d + 1
  | .slice elems spare => uptoBulkAll elems + uptoBulkAll spare + 1
  | .agg parts => uptoBulkAll parts + 1
  | .iface _ d => uptoBulk d + 1
  | .map entries => uptoBulkEntries entries + 1
  | .held _ => 1
def uptoBulkAll {H : Type} : List (DataW H) → Nat
  | [] => 0
  | d :: r => uptoBulk d + uptoBulkAll r
def uptoBulkEntries {H : Type} : List (Lit × DataW H) → Nat
  | [] => 0
  | x :: r => uptoBulkEntry x + uptoBulkEntries r
def uptoBulkEntry {H : Type} : Lit × DataW H → Nat
  | (.string bytes, d) => bytes.length + uptoBulk d + 1
  | (_, d) => uptoBulk d + 1
 end
def uptoSmall : (H : Type) → List (DataW H) → Bool := fun _ ds => decide (uptoBulkAll ds ≤ 1048576)
def OpenSpec.upto (s : _root_.Go.ChangeSpec) : _root_.Go.OpenSpec := { _root_.Go.OpenSpec.ofChange s with cond := some uptoSmall }

/-- 'laws.FnInsertBelow', WHERE WHAT IT READS IS OF BULK AT MOST 1048576: true; the input reads as it did. -/
def fnInsertBelowUptoRow : OpenClaim := { program := "ytbcjcceejddocaa", sum := "b8076f1d2b637aedf64433bb98b3abf549432e332ada938a28767f93461bc4c6", func := "loop.example/lib-g01184/laws.FnInsertBelow", spec := "fnInsertBelow", inPlace := ["slices.overlaps[int]"], unfollowed := true, recurses := true, apart := false, narrowed := true }
def FnInsertBelowUptoSaid : Prop := fnInsertBelowUptoRow.holds Try.pinned (OpenSpec.upto fnInsertBelowSpec)

/-- 'laws.FnInsertInts', WHERE WHAT IT READS IS OF BULK AT MOST 1048576: true; the input reads as it did. -/
def fnInsertIntsUptoRow : OpenClaim := { program := "ytbcjcceejddocaa", sum := "b8076f1d2b637aedf64433bb98b3abf549432e332ada938a28767f93461bc4c6", func := "loop.example/lib-g01184/laws.FnInsertInts", spec := "fnInsertInts", inPlace := ["slices.overlaps[int]"], unfollowed := true, recurses := true, apart := false, narrowed := true }
def FnInsertIntsUptoSaid : Prop := fnInsertIntsUptoRow.holds Try.pinned (OpenSpec.upto fnInsertIntsSpec)

/-- 'laws.FnInsertPlaces', WHERE WHAT IT READS IS OF BULK AT MOST 1048576: true; the input reads as it did. -/
def fnInsertPlacesUptoRow : OpenClaim := { program := "ytbcjcceejddocaa", sum := "b8076f1d2b637aedf64433bb98b3abf549432e332ada938a28767f93461bc4c6", func := "loop.example/lib-g01184/laws.FnInsertPlaces", spec := "fnInsertPlaces", inPlace := ["slices.overlaps[int]"], unfollowed := true, recurses := true, apart := false, narrowed := true }
def FnInsertPlacesUptoSaid : Prop := fnInsertPlacesUptoRow.holds Try.pinned (OpenSpec.upto fnInsertPlacesSpec)

/-- 'laws.FnDeleteInserted', WHERE WHAT IT READS IS OF BULK AT MOST 1048576: true; the input reads as it did. -/
def fnDeleteInsertedUptoRow : OpenClaim := { program := "ytbcjcceejddocaa", sum := "b8076f1d2b637aedf64433bb98b3abf549432e332ada938a28767f93461bc4c6", func := "loop.example/lib-g01184/laws.FnDeleteInserted", spec := "fnDeleteInserted", inPlace := ["slices.overlaps[int]"], unfollowed := true, recurses := true, apart := false, narrowed := true }
def FnDeleteInsertedUptoSaid : Prop := fnDeleteInsertedUptoRow.holds Try.pinned (OpenSpec.upto fnDeleteInsertedSpec)

/-- 'laws.FnInsertDeleted', WHERE WHAT IT READS IS OF BULK AT MOST 1048576: true; the input reads as it did. -/
def fnInsertDeletedUptoRow : OpenClaim := { program := "ytbcjcceejddocaa", sum := "b8076f1d2b637aedf64433bb98b3abf549432e332ada938a28767f93461bc4c6", func := "loop.example/lib-g01184/laws.FnInsertDeleted", spec := "fnInsertDeleted", inPlace := ["slices.overlaps[int]"], unfollowed := true, recurses := true, apart := false, narrowed := true }
def FnInsertDeletedUptoSaid : Prop := fnInsertDeletedUptoRow.holds Try.pinned (OpenSpec.upto fnInsertDeletedSpec)

/-- 'laws.FnReplaceIsDeleteInsert', WHERE WHAT IT READS IS OF BULK AT MOST 1048576: true; the input reads as it did. -/
def fnReplaceIsDeleteInsertUptoRow : OpenClaim := { program := "ytbcjcceejddocaa", sum := "b8076f1d2b637aedf64433bb98b3abf549432e332ada938a28767f93461bc4c6", func := "loop.example/lib-g01184/laws.FnReplaceIsDeleteInsert", spec := "fnReplaceIsDeleteInsert", inPlace := ["slices.overlaps[int]"], unfollowed := true, recurses := true, apart := false, narrowed := true }
def FnReplaceIsDeleteInsertUptoSaid : Prop := fnReplaceIsDeleteInsertUptoRow.holds Try.pinned (OpenSpec.upto fnReplaceIsDeleteInsertSpec)

/-- 'laws.FnExactReplaceInts', WHERE WHAT IT READS IS OF BULK AT MOST 1048576: true; the input reads as it did. -/
def fnExactReplaceIntsUptoRow : OpenClaim := { program := "ytbcjcceejddocaa", sum := "b8076f1d2b637aedf64433bb98b3abf549432e332ada938a28767f93461bc4c6", func := "loop.example/lib-g01184/laws.FnExactReplaceInts", spec := "fnExactReplaceInts", inPlace := ["slices.overlaps[int]"], unfollowed := true, recurses := true, apart := false, narrowed := true }
def FnExactReplaceIntsUptoSaid : Prop := fnExactReplaceIntsUptoRow.holds Try.pinned (OpenSpec.upto fnExactReplaceIntsSpec)

/-- 'laws.FnReplaceBack', WHERE WHAT IT READS IS OF BULK AT MOST 1048576: true; the input reads as it did. -/
def fnReplaceBackUptoRow : OpenClaim := { program := "ytbcjcceejddocaa", sum := "b8076f1d2b637aedf64433bb98b3abf549432e332ada938a28767f93461bc4c6", func := "loop.example/lib-g01184/laws.FnReplaceBack", spec := "fnReplaceBack", inPlace := ["slices.overlaps[int]"], unfollowed := true, recurses := true, apart := false, narrowed := true }
def FnReplaceBackUptoSaid : Prop := fnReplaceBackUptoRow.holds Try.pinned (OpenSpec.upto fnReplaceBackSpec)

/-- 'laws.FnReplaceRestPanics', WHERE WHAT IT READS IS OF BULK AT MOST 1048576: true; the input reads as it did. -/
def fnReplaceRestPanicsUptoRow : OpenClaim := { program := "ytbcjcceejddocaa", sum := "b8076f1d2b637aedf64433bb98b3abf549432e332ada938a28767f93461bc4c6", func := "loop.example/lib-g01184/laws.FnReplaceRestPanics", spec := "fnReplaceRestPanics", inPlace := ["slices.overlaps[int]"], unfollowed := true, recurses := true, apart := false, narrowed := true }
def FnReplaceRestPanicsUptoSaid : Prop := fnReplaceRestPanicsUptoRow.holds Try.pinned (OpenSpec.upto fnReplaceRestPanicsSpec)

/-- 'laws.FnReplaceZeroes', WHERE WHAT IT READS IS OF BULK AT MOST 1048576: true; the input reads as it did. -/
def fnReplaceZeroesUptoRow : OpenClaim := { program := "ytbcjcceejddocaa", sum := "b8076f1d2b637aedf64433bb98b3abf549432e332ada938a28767f93461bc4c6", func := "loop.example/lib-g01184/laws.FnReplaceZeroes", spec := "fnReplaceZeroes", inPlace := ["slices.overlaps[int]"], unfollowed := true, recurses := true, apart := false, narrowed := true }
def FnReplaceZeroesUptoSaid : Prop := fnReplaceZeroesUptoRow.holds Try.pinned (OpenSpec.upto fnReplaceZeroesSpec)

/-- 'laws.FnReversePartIsReplace', WHERE WHAT IT READS IS OF BULK AT MOST 1048576: true; the input reads as it did. -/
def fnReversePartIsReplaceUptoRow : OpenClaim := { program := "ytbcjcceejddocaa", sum := "b8076f1d2b637aedf64433bb98b3abf549432e332ada938a28767f93461bc4c6", func := "loop.example/lib-g01184/laws.FnReversePartIsReplace", spec := "fnReversePartIsReplace", inPlace := ["slices.overlaps[int]"], unfollowed := true, recurses := true, apart := false, narrowed := true }
def FnReversePartIsReplaceUptoSaid : Prop := fnReversePartIsReplaceUptoRow.holds Try.pinned (OpenSpec.upto fnReversePartIsReplaceSpec)

/-- 'laws.FnConcatIsInsert', WHERE WHAT IT READS IS OF BULK AT MOST 1048576: true; the input reads as it did. -/
def fnConcatIsInsertUptoRow : OpenClaim := { program := "ytbcjcceejddocaa", sum := "b8076f1d2b637aedf64433bb98b3abf549432e332ada938a28767f93461bc4c6", func := "loop.example/lib-g01184/laws.FnConcatIsInsert", spec := "fnConcatIsInsert", inPlace := ["slices.overlaps[int]"], unfollowed := true, recurses := true, apart := false, narrowed := true }
def FnConcatIsInsertUptoSaid : Prop := fnConcatIsInsertUptoRow.holds Try.pinned (OpenSpec.upto fnConcatIsInsertSpec)

end Rows
end Go.Proofs.Ytbcjcceejddocaa
