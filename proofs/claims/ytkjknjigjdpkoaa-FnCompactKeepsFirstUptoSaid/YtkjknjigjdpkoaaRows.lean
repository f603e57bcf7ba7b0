/-
  No cell of these rows narrows 'for every input' (looked for: loops, veiled, ifaces, maps, wideKeys, modest, calm, conditions, laid).
  DERIVED. THE GIVEN ROWS OF THIS SEAT. 12 by the template 'for every input the law returns true; each argument reads behind the call as it read before'; 0 by the template 'total and deterministic' (their statements: YtkjknjigjdpkoaaTotals.lean).
  GIVEN WITH THE SEED: the statements are not yours to turn. If you find one false, say at which input.
  Laid BY PROGRAM, IN A SANDBOX (cutbox-rows.mjs): the forced cells as the released guide's own fill.sh prints them over the translation e5caa9ace97dd1ac… (all of the seat's roots in one cut). By AI agents, Wed Nov 11 2026. No macro, syntax, notation, axiom, sorry.
-/
import Derived.Test.YtkjknjigjdpkoaaChecked
import GoSem.Claim
import GoSem.ClaimJoined
import GoSem.ClaimMapViews
import Derived.JoinedTies
import Derived.KernelRfl
namespace Go.Proofs.Ytkjknjigjdpkoaa
/- THE CELL 'sum', in the pinned program and in every row, IS THE sha256 OF THE DUMP (.gsa) THAT YtkjknjigjdpkoaaProg.lean LOADS. Nothing in Lean hashes anything: it is a label: what it is worth is what the hold of that sum in a sandbox is worth. -/
noncomputable def Try.pinned : Pinned := { name := "ytkjknjigjdpkoaa", sum := "e5caa9ace97dd1ac16ff58564fb81c7c98e080aa3a87a800794f7c3f6324447b", checked := Try.checked }
namespace Rows
def none {H : Type} : Left H := { results := [], args := [] }

/-- 'laws.FnDeleteInSteps': WHATEVER THE INPUT: true; the input reads as it did. -/
def fnDeleteInStepsSpec : ChangeSpec := { name := "fnDeleteInSteps", fn := fun _ => fun
  | [d1, d2, d3] => { results := [.lit (.bool true)], args := [d1, d2, d3] }
  | _ => none }
def fnDeleteInStepsRow : OpenClaim := { program := "ytkjknjigjdpkoaa", sum := "e5caa9ace97dd1ac16ff58564fb81c7c98e080aa3a87a800794f7c3f6324447b", func := "loop.example/lib-g01184/laws.FnDeleteInSteps", spec := "fnDeleteInSteps", unfollowed := true, recurses := true, apart := false }
def FnDeleteInStepsSaid : Prop := fnDeleteInStepsRow.holds Try.pinned (OpenSpec.ofChange fnDeleteInStepsSpec)

/-- ITS FALSE NEIGHBOUR: 'it returns false'. Refute it at one input. -/
def fnDeleteInStepsWrong : ChangeSpec := { name := "fnDeleteInSteps", fn := fun _ => fun
  | [d1, d2, d3] => { results := [.lit (.bool false)], args := [d1, d2, d3] }
  | _ => none }
def FnDeleteInStepsWrongFalsely : Prop := fnDeleteInStepsRow.holds Try.pinned (OpenSpec.ofChange fnDeleteInStepsWrong)

/-- 'laws.FnExactDeleteInts': WHATEVER THE INPUT: true; the input reads as it did. -/
def fnExactDeleteIntsSpec : ChangeSpec := { name := "fnExactDeleteInts", fn := fun _ => fun
  | [d1, d2, d3] => { results := [.lit (.bool true)], args := [d1, d2, d3] }
  | _ => none }
def fnExactDeleteIntsRow : OpenClaim := { program := "ytkjknjigjdpkoaa", sum := "e5caa9ace97dd1ac16ff58564fb81c7c98e080aa3a87a800794f7c3f6324447b", func := "loop.example/lib-g01184/laws.FnExactDeleteInts", spec := "fnExactDeleteInts", unfollowed := true, recurses := true, apart := false }
def FnExactDeleteIntsSaid : Prop := fnExactDeleteIntsRow.holds Try.pinned (OpenSpec.ofChange fnExactDeleteIntsSpec)

/-- ITS FALSE NEIGHBOUR: 'it returns false'. Refute it at one input. -/
def fnExactDeleteIntsWrong : ChangeSpec := { name := "fnExactDeleteInts", fn := fun _ => fun
  | [d1, d2, d3] => { results := [.lit (.bool false)], args := [d1, d2, d3] }
  | _ => none }
def FnExactDeleteIntsWrongFalsely : Prop := fnExactDeleteIntsRow.holds Try.pinned (OpenSpec.ofChange fnExactDeleteIntsWrong)

/-- 'laws.FnExactDeleteRest': WHATEVER THE INPUT: true; the input reads as it did. -/
def fnExactDeleteRestSpec : ChangeSpec := { name := "fnExactDeleteRest", fn := fun _ => fun
  | [d1, d2, d3] => { results := [.lit (.bool true)], args := [d1, d2, d3] }
  | _ => none }
def fnExactDeleteRestRow : OpenClaim := { program := "ytkjknjigjdpkoaa", sum := "e5caa9ace97dd1ac16ff58564fb81c7c98e080aa3a87a800794f7c3f6324447b", func := "loop.example/lib-g01184/laws.FnExactDeleteRest", spec := "fnExactDeleteRest", unfollowed := true, recurses := true, apart := false }
def FnExactDeleteRestSaid : Prop := fnExactDeleteRestRow.holds Try.pinned (OpenSpec.ofChange fnExactDeleteRestSpec)

/-- ITS FALSE NEIGHBOUR: 'it returns false'. Refute it at one input. -/
def fnExactDeleteRestWrong : ChangeSpec := { name := "fnExactDeleteRest", fn := fun _ => fun
  | [d1, d2, d3] => { results := [.lit (.bool false)], args := [d1, d2, d3] }
  | _ => none }
def FnExactDeleteRestWrongFalsely : Prop := fnExactDeleteRestRow.holds Try.pinned (OpenSpec.ofChange fnExactDeleteRestWrong)

/-- 'laws.FnDeletePanics': WHATEVER THE INPUT: true; the input reads as it did. -/
def fnDeletePanicsSpec : ChangeSpec := { name := "fnDeletePanics", fn := fun _ => fun
  | [d1, d2, d3] => { results := [.lit (.bool true)], args := [d1, d2, d3] }
  | _ => none }
def fnDeletePanicsRow : OpenClaim := { program := "ytkjknjigjdpkoaa", sum := "e5caa9ace97dd1ac16ff58564fb81c7c98e080aa3a87a800794f7c3f6324447b", func := "loop.example/lib-g01184/laws.FnDeletePanics", spec := "fnDeletePanics", unfollowed := true, recurses := true, apart := false }
def FnDeletePanicsSaid : Prop := fnDeletePanicsRow.holds Try.pinned (OpenSpec.ofChange fnDeletePanicsSpec)

/-- ITS FALSE NEIGHBOUR: 'it returns false'. Refute it at one input. -/
def fnDeletePanicsWrong : ChangeSpec := { name := "fnDeletePanics", fn := fun _ => fun
  | [d1, d2, d3] => { results := [.lit (.bool false)], args := [d1, d2, d3] }
  | _ => none }
def FnDeletePanicsWrongFalsely : Prop := fnDeletePanicsRow.holds Try.pinned (OpenSpec.ofChange fnDeletePanicsWrong)

/-- 'laws.FnDeleteZeroes': WHATEVER THE INPUT: true; the input reads as it did. -/
def fnDeleteZeroesSpec : ChangeSpec := { name := "fnDeleteZeroes", fn := fun _ => fun
  | [d1, d2, d3] => { results := [.lit (.bool true)], args := [d1, d2, d3] }
  | _ => none }
def fnDeleteZeroesRow : OpenClaim := { program := "ytkjknjigjdpkoaa", sum := "e5caa9ace97dd1ac16ff58564fb81c7c98e080aa3a87a800794f7c3f6324447b", func := "loop.example/lib-g01184/laws.FnDeleteZeroes", spec := "fnDeleteZeroes", unfollowed := true, recurses := true, apart := false }
def FnDeleteZeroesSaid : Prop := fnDeleteZeroesRow.holds Try.pinned (OpenSpec.ofChange fnDeleteZeroesSpec)

/-- ITS FALSE NEIGHBOUR: 'it returns false'. Refute it at one input. -/
def fnDeleteZeroesWrong : ChangeSpec := { name := "fnDeleteZeroes", fn := fun _ => fun
  | [d1, d2, d3] => { results := [.lit (.bool false)], args := [d1, d2, d3] }
  | _ => none }
def FnDeleteZeroesWrongFalsely : Prop := fnDeleteZeroesRow.holds Try.pinned (OpenSpec.ofChange fnDeleteZeroesWrong)

/-- 'laws.FnIndexAfterDelete': WHATEVER THE INPUT: true; the input reads as it did. -/
def fnIndexAfterDeleteSpec : ChangeSpec := { name := "fnIndexAfterDelete", fn := fun _ => fun
  | [d1, d2] => { results := [.lit (.bool true)], args := [d1, d2] }
  | _ => none }
def fnIndexAfterDeleteRow : OpenClaim := { program := "ytkjknjigjdpkoaa", sum := "e5caa9ace97dd1ac16ff58564fb81c7c98e080aa3a87a800794f7c3f6324447b", func := "loop.example/lib-g01184/laws.FnIndexAfterDelete", spec := "fnIndexAfterDelete", unfollowed := true, recurses := true, apart := false }
def FnIndexAfterDeleteSaid : Prop := fnIndexAfterDeleteRow.holds Try.pinned (OpenSpec.ofChange fnIndexAfterDeleteSpec)

/-- ITS FALSE NEIGHBOUR: 'it returns false'. Refute it at one input. -/
def fnIndexAfterDeleteWrong : ChangeSpec := { name := "fnIndexAfterDelete", fn := fun _ => fun
  | [d1, d2] => { results := [.lit (.bool false)], args := [d1, d2] }
  | _ => none }
def FnIndexAfterDeleteWrongFalsely : Prop := fnIndexAfterDeleteRow.holds Try.pinned (OpenSpec.ofChange fnIndexAfterDeleteWrong)

/-- 'laws.FnCompactHasNoRuns': WHATEVER THE INPUT: true; the input reads as it did. -/
def fnCompactHasNoRunsSpec : ChangeSpec := { name := "fnCompactHasNoRuns", fn := fun _ => fun
  | [d] => { results := [.lit (.bool true)], args := [d] }
  | _ => none }
def fnCompactHasNoRunsRow : OpenClaim := { program := "ytkjknjigjdpkoaa", sum := "e5caa9ace97dd1ac16ff58564fb81c7c98e080aa3a87a800794f7c3f6324447b", func := "loop.example/lib-g01184/laws.FnCompactHasNoRuns", spec := "fnCompactHasNoRuns", apart := false }
def FnCompactHasNoRunsSaid : Prop := fnCompactHasNoRunsRow.holds Try.pinned (OpenSpec.ofChange fnCompactHasNoRunsSpec)

/-- ITS FALSE NEIGHBOUR: 'it returns false'. Refute it at one input. -/
def fnCompactHasNoRunsWrong : ChangeSpec := { name := "fnCompactHasNoRuns", fn := fun _ => fun
  | [d] => { results := [.lit (.bool false)], args := [d] }
  | _ => none }
def FnCompactHasNoRunsWrongFalsely : Prop := fnCompactHasNoRunsRow.holds Try.pinned (OpenSpec.ofChange fnCompactHasNoRunsWrong)

/-- 'laws.FnExactCompactInts': WHATEVER THE INPUT: true; the input reads as it did. -/
def fnExactCompactIntsSpec : ChangeSpec := { name := "fnExactCompactInts", fn := fun _ => fun
  | [d] => { results := [.lit (.bool true)], args := [d] }
  | _ => none }
def fnExactCompactIntsRow : OpenClaim := { program := "ytkjknjigjdpkoaa", sum := "e5caa9ace97dd1ac16ff58564fb81c7c98e080aa3a87a800794f7c3f6324447b", func := "loop.example/lib-g01184/laws.FnExactCompactInts", spec := "fnExactCompactInts", apart := false }
def FnExactCompactIntsSaid : Prop := fnExactCompactIntsRow.holds Try.pinned (OpenSpec.ofChange fnExactCompactIntsSpec)

/-- ITS FALSE NEIGHBOUR: 'it returns false'. Refute it at one input. -/
def fnExactCompactIntsWrong : ChangeSpec := { name := "fnExactCompactInts", fn := fun _ => fun
  | [d] => { results := [.lit (.bool false)], args := [d] }
  | _ => none }
def FnExactCompactIntsWrongFalsely : Prop := fnExactCompactIntsRow.holds Try.pinned (OpenSpec.ofChange fnExactCompactIntsWrong)

/-- 'laws.FnExactCompactRest': WHATEVER THE INPUT: true; the input reads as it did. -/
def fnExactCompactRestSpec : ChangeSpec := { name := "fnExactCompactRest", fn := fun _ => fun
  | [d] => { results := [.lit (.bool true)], args := [d] }
  | _ => none }
def fnExactCompactRestRow : OpenClaim := { program := "ytkjknjigjdpkoaa", sum := "e5caa9ace97dd1ac16ff58564fb81c7c98e080aa3a87a800794f7c3f6324447b", func := "loop.example/lib-g01184/laws.FnExactCompactRest", spec := "fnExactCompactRest", apart := false }
def FnExactCompactRestSaid : Prop := fnExactCompactRestRow.holds Try.pinned (OpenSpec.ofChange fnExactCompactRestSpec)

/-- ITS FALSE NEIGHBOUR: 'it returns false'. Refute it at one input. -/
def fnExactCompactRestWrong : ChangeSpec := { name := "fnExactCompactRest", fn := fun _ => fun
  | [d] => { results := [.lit (.bool false)], args := [d] }
  | _ => none }
def FnExactCompactRestWrongFalsely : Prop := fnExactCompactRestRow.holds Try.pinned (OpenSpec.ofChange fnExactCompactRestWrong)

/-- 'laws.FnCompactZeroes': WHATEVER THE INPUT: true; the input reads as it did. -/
def fnCompactZeroesSpec : ChangeSpec := { name := "fnCompactZeroes", fn := fun _ => fun
  | [d] => { results := [.lit (.bool true)], args := [d] }
  | _ => none }
def fnCompactZeroesRow : OpenClaim := { program := "ytkjknjigjdpkoaa", sum := "e5caa9ace97dd1ac16ff58564fb81c7c98e080aa3a87a800794f7c3f6324447b", func := "loop.example/lib-g01184/laws.FnCompactZeroes", spec := "fnCompactZeroes", apart := false }
def FnCompactZeroesSaid : Prop := fnCompactZeroesRow.holds Try.pinned (OpenSpec.ofChange fnCompactZeroesSpec)

/-- ITS FALSE NEIGHBOUR: 'it returns false'. Refute it at one input. -/
def fnCompactZeroesWrong : ChangeSpec := { name := "fnCompactZeroes", fn := fun _ => fun
  | [d] => { results := [.lit (.bool false)], args := [d] }
  | _ => none }
def FnCompactZeroesWrongFalsely : Prop := fnCompactZeroesRow.holds Try.pinned (OpenSpec.ofChange fnCompactZeroesWrong)

/-- 'laws.FnExactCompactItems': WHATEVER THE INPUT: true; the input reads as it did. -/
def fnExactCompactItemsSpec : ChangeSpec := { name := "fnExactCompactItems", fn := fun _ => fun
  | [d] => { results := [.lit (.bool true)], args := [d] }
  | _ => none }
def fnExactCompactItemsRow : OpenClaim := { program := "ytkjknjigjdpkoaa", sum := "e5caa9ace97dd1ac16ff58564fb81c7c98e080aa3a87a800794f7c3f6324447b", func := "loop.example/lib-g01184/laws.FnExactCompactItems", spec := "fnExactCompactItems", unfollowed := true, recurses := true, apart := false }
def FnExactCompactItemsSaid : Prop := fnExactCompactItemsRow.holds Try.pinned (OpenSpec.ofChange fnExactCompactItemsSpec)

/-- ITS FALSE NEIGHBOUR: 'it returns false'. Refute it at one input. -/
def fnExactCompactItemsWrong : ChangeSpec := { name := "fnExactCompactItems", fn := fun _ => fun
  | [d] => { results := [.lit (.bool false)], args := [d] }
  | _ => none }
def FnExactCompactItemsWrongFalsely : Prop := fnExactCompactItemsRow.holds Try.pinned (OpenSpec.ofChange fnExactCompactItemsWrong)

/-- 'laws.FnCompactKeepsFirst': WHATEVER THE INPUT: true; the input reads as it did. -/
def fnCompactKeepsFirstSpec : ChangeSpec := { name := "fnCompactKeepsFirst", fn := fun _ => fun
  | [d] => { results := [.lit (.bool true)], args := [d] }
  | _ => none }
def fnCompactKeepsFirstRow : OpenClaim := { program := "ytkjknjigjdpkoaa", sum := "e5caa9ace97dd1ac16ff58564fb81c7c98e080aa3a87a800794f7c3f6324447b", func := "loop.example/lib-g01184/laws.FnCompactKeepsFirst", spec := "fnCompactKeepsFirst", unfollowed := true, recurses := true, apart := false }
def FnCompactKeepsFirstSaid : Prop := fnCompactKeepsFirstRow.holds Try.pinned (OpenSpec.ofChange fnCompactKeepsFirstSpec)

/-- ITS FALSE NEIGHBOUR: 'it returns false'. Refute it at one input. -/
def fnCompactKeepsFirstWrong : ChangeSpec := { name := "fnCompactKeepsFirst", fn := fun _ => fun
  | [d] => { results := [.lit (.bool false)], args := [d] }
  | _ => none }
def FnCompactKeepsFirstWrongFalsely : Prop := fnCompactKeepsFirstRow.holds Try.pinned (OpenSpec.ofChange fnCompactKeepsFirstWrong)

/- THE SECOND FORM. 'bulk': how many values and letters a reading holds, each counted each time it is reached (what is shared counts as often as it is met; a slice's spare places count too). A statement '..UptoSaid' is the law's where the arguments, and the package variables that the reading takes, are together of bulk at most 1048576: NARROWER than '..Said'. Prove '..Said' where nothing that the law and all that it calls make is longer than what came in: it says more and counts as full. Else prove '..UptoSaid'. A law counts once. -/
mutual
def uptoBulk {H : Type} : DataW H → Nat
  | .lit (.string bytes) => bytes.length + 1
  | .lit _ => 1
  | .nil => 1
  | .ptr d => uptoBulk d + 1
  | .slice elems spare => uptoBulkAll elems + uptoBulkAll spare + 1
  | .agg parts => uptoBulkAll parts + 1
  | .iface _ d => uptoBulk d + 1
  | .map entries => uptoBulkEntries entries + 1
  | .held _ => 1
def uptoBulkAll {H : Type} : List (DataW H) → Nat
  | [] => 0
  | d :: r => uptoBulk d + uptoBulkAll r
def uptoBulkEntries {H : Type} : List (Lit × DataW H) → Nat
  | [] => 0
  | x :: r => uptoBulkEntry x + uptoBulkEntries r
def uptoBulkEntry {H : Type} : Lit × DataW H → Nat
  | (.string bytes, d) => bytes.length + uptoBulk d + 1
  | (_, d) => uptoBulk d + 1
 end
def uptoSmall : (H : Type) → List (DataW H) → Bool := fun _ ds => decide (uptoBulkAll ds ≤ 1048576)
def OpenSpec.upto (s : _root_.Go.ChangeSpec) : _root_.Go.OpenSpec := { _root_.Go.OpenSpec.ofChange s with cond := some uptoSmall }

/-- 'laws.FnDeleteInSteps', WHERE WHAT IT READS IS OF BULK AT MOST 1048576: true; the input reads as it did. -/
def fnDeleteInStepsUptoRow : OpenClaim := { program := "ytkjknjigjdpkoaa", sum := "e5caa9ace97dd1ac16ff58564fb81c7c98e080aa3a87a800794f7c3f6324447b", func := "loop.example/lib-g01184/laws.FnDeleteInSteps", spec := "fnDeleteInSteps", unfollowed := true, recurses := true, apart := false, narrowed := true }
def FnDeleteInStepsUptoSaid : Prop := fnDeleteInStepsUptoRow.holds Try.pinned (OpenSpec.upto fnDeleteInStepsSpec)

/-- 'laws.FnExactDeleteInts', WHERE WHAT IT READS IS OF BULK AT MOST 1048576: true; the input reads as it did. -/
def fnExactDeleteIntsUptoRow : OpenClaim := { program := "ytkjknjigjdpkoaa", sum := "e5caa9ace97dd1ac16ff58564fb81c7c98e080aa3a87a800794f7c3f6324447b", func := "loop.example/lib-g01184/laws.FnExactDeleteInts", spec := "fnExactDeleteInts", unfollowed := true, recurses := true, apart := false, narrowed := true }
def FnExactDeleteIntsUptoSaid : Prop := fnExactDeleteIntsUptoRow.holds Try.pinned (OpenSpec.upto fnExactDeleteIntsSpec)

/-- 'laws.FnExactDeleteRest', WHERE WHAT IT READS IS OF BULK AT MOST 1048576: true; the input reads as it did. -/
def fnExactDeleteRestUptoRow : OpenClaim := { program := "ytkjknjigjdpkoaa", sum := "e5caa9ace97dd1ac16ff58564fb81c7c98e080aa3a87a800794f7c3f6324447b", func := "loop.example/lib-g01184/laws.FnExactDeleteRest", spec := "fnExactDeleteRest", unfollowed := true, recurses := true, apart := false, narrowed := true }
def FnExactDeleteRestUptoSaid : Prop := fnExactDeleteRestUptoRow.holds Try.pinned (OpenSpec.upto fnExactDeleteRestSpec)

/-- 'laws.FnDeletePanics', WHERE WHAT IT READS IS OF BULK AT MOST 1048576: true; the input reads as it did. -/
def fnDeletePanicsUptoRow : OpenClaim := { program := "ytkjknjigjdpkoaa", sum := "e5caa9ace97dd1ac16ff58564fb81c7c98e080aa3a87a800794f7c3f6324447b", func := "loop.example/lib-g01184/laws.FnDeletePanics", spec := "fnDeletePanics", unfollowed := true, recurses := true, apart := false, narrowed := true }
def FnDeletePanicsUptoSaid : Prop := fnDeletePanicsUptoRow.holds Try.pinned (OpenSpec.upto fnDeletePanicsSpec)

/-- 'laws.FnDeleteZeroes', WHERE WHAT IT READS IS OF BULK AT MOST 1048576: true; the input reads as it did. -/
def fnDeleteZeroesUptoRow : OpenClaim := { program := "ytkjknjigjdpkoaa", sum := "e5caa9ace97dd1ac16ff58564fb81c7c98e080aa3a87a800794f7c3f6324447b", func := "loop.example/lib-g01184/laws.FnDeleteZeroes", spec := "fnDeleteZeroes", unfollowed := true, recurses := true, apart := false, narrowed := true }
def FnDeleteZeroesUptoSaid : Prop := fnDeleteZeroesUptoRow.holds Try.pinned (OpenSpec.upto fnDeleteZeroesSpec)

/-- 'laws.FnIndexAfterDelete', WHERE WHAT IT READS IS OF BULK AT MOST 1048576: true; the input reads as it did. -/
def fnIndexAfterDeleteUptoRow : OpenClaim := { program := "ytkjknjigjdpkoaa", sum := "e5caa9ace97dd1ac16ff58564fb81c7c98e080aa3a87a800794f7c3f6324447b", func := "loop.example/lib-g01184/laws.FnIndexAfterDelete", spec := "fnIndexAfterDelete", unfollowed := true, recurses := true, apart := false, narrowed := true }
def FnIndexAfterDeleteUptoSaid : Prop := fnIndexAfterDeleteUptoRow.holds Try.pinned (OpenSpec.upto fnIndexAfterDeleteSpec)

/-- 'laws.FnCompactHasNoRuns', WHERE WHAT IT READS IS OF BULK AT MOST 1048576: true; the input reads as it did. -/
def fnCompactHasNoRunsUptoRow : OpenClaim := { program := "ytkjknjigjdpkoaa", sum := "e5caa9ace97dd1ac16ff58564fb81c7c98e080aa3a87a800794f7c3f6324447b", func := "loop.example/lib-g01184/laws.FnCompactHasNoRuns", spec := "fnCompactHasNoRuns", apart := false, narrowed := true }
def FnCompactHasNoRunsUptoSaid : Prop := fnCompactHasNoRunsUptoRow.holds Try.pinned (OpenSpec.upto fnCompactHasNoRunsSpec)

/-- 'laws.FnExactCompactInts', WHERE WHAT IT READS IS OF BULK AT MOST 1048576: true; the input reads as it did. -/
def fnExactCompactIntsUptoRow : OpenClaim := { program := "ytkjknjigjdpkoaa", sum := "e5caa9ace97dd1ac16ff58564fb81c7c98e080aa3a87a800794f7c3f6324447b", func := "loop.example/lib-g01184/laws.FnExactCompactInts", spec := "fnExactCompactInts", apart := false, narrowed := true }
def FnExactCompactIntsUptoSaid : Prop := fnExactCompactIntsUptoRow.holds Try.pinned (OpenSpec.upto fnExactCompactIntsSpec)

/-- 'laws.FnExactCompactRest', WHERE WHAT IT READS IS OF BULK AT MOST 1048576: true; the input reads as it did. -/
def fnExactCompactRestUptoRow : OpenClaim := { program := "ytkjknjigjdpkoaa", sum := "e5caa9ace97dd1ac16ff58564fb81c7c98e080aa3a87a800794f7c3f6324447b", func := "loop.example/lib-g01184/laws.FnExactCompactRest", spec := "fnExactCompactRest", apart := false, narrowed := true }
def FnExactCompactRestUptoSaid : Prop := fnExactCompactRestUptoRow.holds Try.pinned (OpenSpec.upto fnExactCompactRestSpec)

/-- 'laws.FnCompactZeroes', WHERE WHAT IT READS IS OF BULK AT MOST 1048576: true; the input reads as it did. -/
def fnCompactZeroesUptoRow : OpenClaim := { program := "ytkjknjigjdpkoaa", sum := "e5caa9ace97dd1ac16ff58564fb81c7c98e080aa3a87a800794f7c3f6324447b", func := "loop.example/lib-g01184/laws.FnCompactZeroes", spec := "fnCompactZeroes", apart := false, narrowed := true }
def FnCompactZeroesUptoSaid : Prop := fnCompactZeroesUptoRow.holds Try.pinned (OpenSpec.upto fnCompactZeroesSpec)

/-- 'laws.FnExactCompactItems', WHERE WHAT IT READS IS OF BULK AT MOST 1048576: true; the input reads as it did. -/
def fnExactCompactItemsUptoRow : OpenClaim := { program := "ytkjknjigjdpkoaa", sum := "e5caa9ace97dd1ac16ff58564fb81c7c98e080aa3a87a800794f7c3f6324447b", func := "loop.example/lib-g01184/laws.FnExactCompactItems", spec := "fnExactCompactItems", unfollowed := true, recurses := true, apart := false, narrowed := true }
def FnExactCompactItemsUptoSaid : Prop := fnExactCompactItemsUptoRow.holds Try.pinned (OpenSpec.upto fnExactCompactItemsSpec)

/-- 'laws.FnCompactKeepsFirst', WHERE WHAT IT READS IS OF BULK AT MOST 1048576: true; the input reads as it did. -/
def fnCompactKeepsFirstUptoRow : OpenClaim := { program := "ytkjknjigjdpkoaa", sum := "e5caa9ace97dd1ac16ff58564fb81c7c98e080aa3a87a800794f7c3f6324447b", func := "loop.example/lib-g01184/laws.FnCompactKeepsFirst", spec := "fnCompactKeepsFirst", unfollowed := true, recurses := true, apart := false, narrowed := true }
def FnCompactKeepsFirstUptoSaid : Prop := fnCompactKeepsFirstUptoRow.holds Try.pinned (OpenSpec.upto fnCompactKeepsFirstSpec)

end Rows
end Go.Proofs.Ytkjknjigjdpkoaa
