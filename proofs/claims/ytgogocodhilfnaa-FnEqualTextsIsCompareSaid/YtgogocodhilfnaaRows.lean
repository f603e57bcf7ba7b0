/-
  No cell of these rows narrows 'for every input' (looked for: loops, veiled, ifaces, maps, wideKeys, modest, calm, conditions, laid).
  DERIVED. THE GIVEN ROWS OF THIS SEAT. 11 by the template 'for every input the law returns true; each argument reads behind the call as it read before'; 0 by the template 'total and deterministic' (their statements: YtgogocodhilfnaaTotals.lean).
  GIVEN WITH THE SEED: the statements are not yours to turn. If you find one false, say at which input.
  Laid BY PROGRAM, IN A SANDBOX (cutbox-rows.mjs): the forced cells as the released guide's own fill.sh prints them over the translation 2f3149129317d096… (all of the seat's roots in one cut). By AI agents, Wed Nov 11 2026. No macro, syntax, notation, axiom, sorry.
-/
import Derived.Test.YtgogocodhilfnaaChecked
import GoSem.Claim
import GoSem.ClaimJoined
import GoSem.ClaimMapViews
import Derived.JoinedTies
import Derived.KernelRfl
namespace Go.Proofs.Ytgogocodhilfnaa
/- THE CELL 'sum', in the pinned program and in every row, IS THE sha256 OF THE DUMP (.gsa) THAT YtgogocodhilfnaaProg.lean LOADS. Nothing in Lean hashes anything: it is a label: what it is worth is what the hold of that sum in a sandbox is worth. -/
noncomputable def Try.pinned : Pinned := { name := "ytgogocodhilfnaa", sum := "2f3149129317d096c6257da7305382bdd7fd47c8e486279b728df99f51376a34", checked := Try.checked }
namespace Rows
def none {H : Type} : Left H := { results := [], args := [] }

/-- 'laws.FnExactEqualInts': WHATEVER THE INPUT: true; the input reads as it did. -/
def fnExactEqualIntsSpec : ChangeSpec := { name := "fnExactEqualInts", fn := fun _ => fun
  | [d1, d2] => { results := [.lit (.bool true)], args := [d1, d2] }
  | _ => none }
def fnExactEqualIntsRow : OpenClaim := { program := "ytgogocodhilfnaa", sum := "2f3149129317d096c6257da7305382bdd7fd47c8e486279b728df99f51376a34", func := "loop.example/lib-g01184/laws.FnExactEqualInts", spec := "fnExactEqualInts", apart := false }
def FnExactEqualIntsSaid : Prop := fnExactEqualIntsRow.holds Try.pinned (OpenSpec.ofChange fnExactEqualIntsSpec)

/-- ITS FALSE NEIGHBOUR: 'it returns false'. Refute it at one input. -/
def fnExactEqualIntsWrong : ChangeSpec := { name := "fnExactEqualInts", fn := fun _ => fun
  | [d1, d2] => { results := [.lit (.bool false)], args := [d1, d2] }
  | _ => none }
def FnExactEqualIntsWrongFalsely : Prop := fnExactEqualIntsRow.holds Try.pinned (OpenSpec.ofChange fnExactEqualIntsWrong)

/-- 'laws.FnExactEqualStrings': WHATEVER THE INPUT: true; the input reads as it did. -/
def fnExactEqualStringsSpec : ChangeSpec := { name := "fnExactEqualStrings", fn := fun _ => fun
  | [d1, d2] => { results := [.lit (.bool true)], args := [d1, d2] }
  | _ => none }
def fnExactEqualStringsRow : OpenClaim := { program := "ytgogocodhilfnaa", sum := "2f3149129317d096c6257da7305382bdd7fd47c8e486279b728df99f51376a34", func := "loop.example/lib-g01184/laws.FnExactEqualStrings", spec := "fnExactEqualStrings", apart := false }
def FnExactEqualStringsSaid : Prop := fnExactEqualStringsRow.holds Try.pinned (OpenSpec.ofChange fnExactEqualStringsSpec)

/-- ITS FALSE NEIGHBOUR: 'it returns false'. Refute it at one input. -/
def fnExactEqualStringsWrong : ChangeSpec := { name := "fnExactEqualStrings", fn := fun _ => fun
  | [d1, d2] => { results := [.lit (.bool false)], args := [d1, d2] }
  | _ => none }
def FnExactEqualStringsWrongFalsely : Prop := fnExactEqualStringsRow.holds Try.pinned (OpenSpec.ofChange fnExactEqualStringsWrong)

/-- 'laws.FnExactEqualKeys': WHATEVER THE INPUT: true; the input reads as it did. -/
def fnExactEqualKeysSpec : ChangeSpec := { name := "fnExactEqualKeys", fn := fun _ => fun
  | [d1, d2] => { results := [.lit (.bool true)], args := [d1, d2] }
  | _ => none }
def fnExactEqualKeysRow : OpenClaim := { program := "ytgogocodhilfnaa", sum := "2f3149129317d096c6257da7305382bdd7fd47c8e486279b728df99f51376a34", func := "loop.example/lib-g01184/laws.FnExactEqualKeys", spec := "fnExactEqualKeys", unfollowed := true, recurses := true, apart := false }
def FnExactEqualKeysSaid : Prop := fnExactEqualKeysRow.holds Try.pinned (OpenSpec.ofChange fnExactEqualKeysSpec)

/-- ITS FALSE NEIGHBOUR: 'it returns false'. Refute it at one input. -/
def fnExactEqualKeysWrong : ChangeSpec := { name := "fnExactEqualKeys", fn := fun _ => fun
  | [d1, d2] => { results := [.lit (.bool false)], args := [d1, d2] }
  | _ => none }
def FnExactEqualKeysWrongFalsely : Prop := fnExactEqualKeysRow.holds Try.pinned (OpenSpec.ofChange fnExactEqualKeysWrong)

/-- 'laws.FnExactCompareKeys': WHATEVER THE INPUT: true; the input reads as it did. -/
def fnExactCompareKeysSpec : ChangeSpec := { name := "fnExactCompareKeys", fn := fun _ => fun
  | [d1, d2] => { results := [.lit (.bool true)], args := [d1, d2] }
  | _ => none }
def fnExactCompareKeysRow : OpenClaim := { program := "ytgogocodhilfnaa", sum := "2f3149129317d096c6257da7305382bdd7fd47c8e486279b728df99f51376a34", func := "loop.example/lib-g01184/laws.FnExactCompareKeys", spec := "fnExactCompareKeys", unfollowed := true, recurses := true, apart := false }
def FnExactCompareKeysSaid : Prop := fnExactCompareKeysRow.holds Try.pinned (OpenSpec.ofChange fnExactCompareKeysSpec)

/-- ITS FALSE NEIGHBOUR: 'it returns false'. Refute it at one input. -/
def fnExactCompareKeysWrong : ChangeSpec := { name := "fnExactCompareKeys", fn := fun _ => fun
  | [d1, d2] => { results := [.lit (.bool false)], args := [d1, d2] }
  | _ => none }
def FnExactCompareKeysWrongFalsely : Prop := fnExactCompareKeysRow.holds Try.pinned (OpenSpec.ofChange fnExactCompareKeysWrong)

/-- 'laws.FnCompareIsTransitive': WHATEVER THE INPUT: true; the input reads as it did. -/
def fnCompareIsTransitiveSpec : ChangeSpec := { name := "fnCompareIsTransitive", fn := fun _ => fun
  | [d1, d2, d3] => { results := [.lit (.bool true)], args := [d1, d2, d3] }
  | _ => none }
def fnCompareIsTransitiveRow : OpenClaim := { program := "ytgogocodhilfnaa", sum := "2f3149129317d096c6257da7305382bdd7fd47c8e486279b728df99f51376a34", func := "loop.example/lib-g01184/laws.FnCompareIsTransitive", spec := "fnCompareIsTransitive", apart := false }
def FnCompareIsTransitiveSaid : Prop := fnCompareIsTransitiveRow.holds Try.pinned (OpenSpec.ofChange fnCompareIsTransitiveSpec)

/-- ITS FALSE NEIGHBOUR: 'it returns false'. Refute it at one input. -/
def fnCompareIsTransitiveWrong : ChangeSpec := { name := "fnCompareIsTransitive", fn := fun _ => fun
  | [d1, d2, d3] => { results := [.lit (.bool false)], args := [d1, d2, d3] }
  | _ => none }
def FnCompareIsTransitiveWrongFalsely : Prop := fnCompareIsTransitiveRow.holds Try.pinned (OpenSpec.ofChange fnCompareIsTransitiveWrong)

/-- 'laws.FnCompareOfBeginnings': WHATEVER THE INPUT: true; the input reads as it did. -/
def fnCompareOfBeginningsSpec : ChangeSpec := { name := "fnCompareOfBeginnings", fn := fun _ => fun
  | [d1, d2, d3] => { results := [.lit (.bool true)], args := [d1, d2, d3] }
  | _ => none }
def fnCompareOfBeginningsRow : OpenClaim := { program := "ytgogocodhilfnaa", sum := "2f3149129317d096c6257da7305382bdd7fd47c8e486279b728df99f51376a34", func := "loop.example/lib-g01184/laws.FnCompareOfBeginnings", spec := "fnCompareOfBeginnings", apart := false }
def FnCompareOfBeginningsSaid : Prop := fnCompareOfBeginningsRow.holds Try.pinned (OpenSpec.ofChange fnCompareOfBeginningsSpec)

/-- ITS FALSE NEIGHBOUR: 'it returns false'. Refute it at one input. -/
def fnCompareOfBeginningsWrong : ChangeSpec := { name := "fnCompareOfBeginnings", fn := fun _ => fun
  | [d1, d2, d3] => { results := [.lit (.bool false)], args := [d1, d2, d3] }
  | _ => none }
def FnCompareOfBeginningsWrongFalsely : Prop := fnCompareOfBeginningsRow.holds Try.pinned (OpenSpec.ofChange fnCompareOfBeginningsWrong)

/-- 'laws.FnExactCompareInts': WHATEVER THE INPUT: true; the input reads as it did. -/
def fnExactCompareIntsSpec : ChangeSpec := { name := "fnExactCompareInts", fn := fun _ => fun
  | [d1, d2] => { results := [.lit (.bool true)], args := [d1, d2] }
  | _ => none }
def fnExactCompareIntsRow : OpenClaim := { program := "ytgogocodhilfnaa", sum := "2f3149129317d096c6257da7305382bdd7fd47c8e486279b728df99f51376a34", func := "loop.example/lib-g01184/laws.FnExactCompareInts", spec := "fnExactCompareInts", apart := false }
def FnExactCompareIntsSaid : Prop := fnExactCompareIntsRow.holds Try.pinned (OpenSpec.ofChange fnExactCompareIntsSpec)

/-- ITS FALSE NEIGHBOUR: 'it returns false'. Refute it at one input. -/
def fnExactCompareIntsWrong : ChangeSpec := { name := "fnExactCompareInts", fn := fun _ => fun
  | [d1, d2] => { results := [.lit (.bool false)], args := [d1, d2] }
  | _ => none }
def FnExactCompareIntsWrongFalsely : Prop := fnExactCompareIntsRow.holds Try.pinned (OpenSpec.ofChange fnExactCompareIntsWrong)

/-- 'laws.FnExactCompareStrings': WHATEVER THE INPUT: true; the input reads as it did. -/
def fnExactCompareStringsSpec : ChangeSpec := { name := "fnExactCompareStrings", fn := fun _ => fun
  | [d1, d2] => { results := [.lit (.bool true)], args := [d1, d2] }
  | _ => none }
def fnExactCompareStringsRow : OpenClaim := { program := "ytgogocodhilfnaa", sum := "2f3149129317d096c6257da7305382bdd7fd47c8e486279b728df99f51376a34", func := "loop.example/lib-g01184/laws.FnExactCompareStrings", spec := "fnExactCompareStrings", apart := false }
def FnExactCompareStringsSaid : Prop := fnExactCompareStringsRow.holds Try.pinned (OpenSpec.ofChange fnExactCompareStringsSpec)

/-- ITS FALSE NEIGHBOUR: 'it returns false'. Refute it at one input. -/
def fnExactCompareStringsWrong : ChangeSpec := { name := "fnExactCompareStrings", fn := fun _ => fun
  | [d1, d2] => { results := [.lit (.bool false)], args := [d1, d2] }
  | _ => none }
def FnExactCompareStringsWrongFalsely : Prop := fnExactCompareStringsRow.holds Try.pinned (OpenSpec.ofChange fnExactCompareStringsWrong)

/-- 'laws.FnEqualIsCompare': WHATEVER THE INPUT: true; the input reads as it did. -/
def fnEqualIsCompareSpec : ChangeSpec := { name := "fnEqualIsCompare", fn := fun _ => fun
  | [d1, d2] => { results := [.lit (.bool true)], args := [d1, d2] }
  | _ => none }
def fnEqualIsCompareRow : OpenClaim := { program := "ytgogocodhilfnaa", sum := "2f3149129317d096c6257da7305382bdd7fd47c8e486279b728df99f51376a34", func := "loop.example/lib-g01184/laws.FnEqualIsCompare", spec := "fnEqualIsCompare", apart := false }
def FnEqualIsCompareSaid : Prop := fnEqualIsCompareRow.holds Try.pinned (OpenSpec.ofChange fnEqualIsCompareSpec)

/-- ITS FALSE NEIGHBOUR: 'it returns false'. Refute it at one input. -/
def fnEqualIsCompareWrong : ChangeSpec := { name := "fnEqualIsCompare", fn := fun _ => fun
  | [d1, d2] => { results := [.lit (.bool false)], args := [d1, d2] }
  | _ => none }
def FnEqualIsCompareWrongFalsely : Prop := fnEqualIsCompareRow.holds Try.pinned (OpenSpec.ofChange fnEqualIsCompareWrong)

/-- 'laws.FnEqualTextsIsCompare': WHATEVER THE INPUT: true; the input reads as it did. -/
def fnEqualTextsIsCompareSpec : ChangeSpec := { name := "fnEqualTextsIsCompare", fn := fun _ => fun
  | [d1, d2] => { results := [.lit (.bool true)], args := [d1, d2] }
  | _ => none }
def fnEqualTextsIsCompareRow : OpenClaim := { program := "ytgogocodhilfnaa", sum := "2f3149129317d096c6257da7305382bdd7fd47c8e486279b728df99f51376a34", func := "loop.example/lib-g01184/laws.FnEqualTextsIsCompare", spec := "fnEqualTextsIsCompare", apart := false }
def FnEqualTextsIsCompareSaid : Prop := fnEqualTextsIsCompareRow.holds Try.pinned (OpenSpec.ofChange fnEqualTextsIsCompareSpec)

/-- ITS FALSE NEIGHBOUR: 'it returns false'. Refute it at one input. -/
def fnEqualTextsIsCompareWrong : ChangeSpec := { name := "fnEqualTextsIsCompare", fn := fun _ => fun
  | [d1, d2] => { results := [.lit (.bool false)], args := [d1, d2] }
  | _ => none }
def FnEqualTextsIsCompareWrongFalsely : Prop := fnEqualTextsIsCompareRow.holds Try.pinned (OpenSpec.ofChange fnEqualTextsIsCompareWrong)

/-- 'laws.FnEqualKeysIsCompare': WHATEVER THE INPUT: true; the input reads as it did. -/
def fnEqualKeysIsCompareSpec : ChangeSpec := { name := "fnEqualKeysIsCompare", fn := fun _ => fun
  | [d1, d2] => { results := [.lit (.bool true)], args := [d1, d2] }
  | _ => none }
def fnEqualKeysIsCompareRow : OpenClaim := { program := "ytgogocodhilfnaa", sum := "2f3149129317d096c6257da7305382bdd7fd47c8e486279b728df99f51376a34", func := "loop.example/lib-g01184/laws.FnEqualKeysIsCompare", spec := "fnEqualKeysIsCompare", unfollowed := true, recurses := true, apart := false }
def FnEqualKeysIsCompareSaid : Prop := fnEqualKeysIsCompareRow.holds Try.pinned (OpenSpec.ofChange fnEqualKeysIsCompareSpec)

/-- ITS FALSE NEIGHBOUR: 'it returns false'. Refute it at one input. -/
def fnEqualKeysIsCompareWrong : ChangeSpec := { name := "fnEqualKeysIsCompare", fn := fun _ => fun
  | [d1, d2] => { results := [.lit (.bool false)], args := [d1, d2] }
  | _ => none }
def FnEqualKeysIsCompareWrongFalsely : Prop := fnEqualKeysIsCompareRow.holds Try.pinned (OpenSpec.ofChange fnEqualKeysIsCompareWrong)

/- THE SECOND FORM. 'bulk': how many values and letters a reading holds, each counted each time it is reached (what is shared counts as often as it is met; a slice's spare places count too). A statement '..UptoSaid' is the law's where the arguments, and the package variables that the reading takes, are together of bulk at most 1048576: NARROWER than '..Said'. Prove '..Said' where nothing that the law and all that it calls make is longer than what came in: it says more and counts as full. Else prove '..UptoSaid'. A law counts once. -/
mutual
def uptoBulk {H : Type} : DataW H → Nat
  | .lit (.string bytes) => bytes.length + 1
  | .lit _ => 1
  | .nil => 1
  | .ptr d => uptoBulk d + 1
  | .slice elems spare => uptoBulkAll elems + uptoBulkAll spare + 1
  | .agg parts => uptoBulkAll parts + 1
  | .iface _ d => uptoBulk d + 1
  | .map entries => uptoBulkEntries entries + 1
  | .held _ => 1
def uptoBulkAll {H : Type} : List (DataW H) → Nat
  | [] => 0
  | d :: r => uptoBulk d + uptoBulkAll r
def uptoBulkEntries {H : Type} : List (Lit × DataW H) → Nat
  | [] => 0
  | x :: r => uptoBulkEntry x + uptoBulkEntries r
def uptoBulkEntry {H : Type} : Lit × DataW H → Nat
  | (.string bytes, d) => bytes.length + uptoBulk d + 1
  | (_, d) => uptoBulk d + 1
 end
def uptoSmall : (H : Type) → List (DataW H) → Bool := fun _ ds => decide (uptoBulkAll ds ≤ 1048576)
def OpenSpec.upto (s : _root_.Go.ChangeSpec) : _root_.Go.OpenSpec := { _root_.Go.OpenSpec.ofChange s with cond := some uptoSmall }

/-- 'laws.FnExactEqualInts', WHERE WHAT IT READS IS OF BULK AT MOST 1048576: true; the input reads as it did. -/
def fnExactEqualIntsUptoRow : OpenClaim := { program := "ytgogocodhilfnaa", sum := "2f3149129317d096c6257da7305382bdd7fd47c8e486279b728df99f51376a34", func := "loop.example/lib-g01184/laws.FnExactEqualInts", spec := "fnExactEqualInts", apart := false, narrowed := true }
def FnExactEqualIntsUptoSaid : Prop := fnExactEqualIntsUptoRow.holds Try.pinned (OpenSpec.upto fnExactEqualIntsSpec)

/-- 'laws.FnExactEqualStrings', WHERE WHAT IT READS IS OF BULK AT MOST 1048576: true; the input reads as it did. -/
def fnExactEqualStringsUptoRow : OpenClaim := { program := "ytgogocodhilfnaa", sum := "2f3149129317d096c6257da7305382bdd7fd47c8e486279b728df99f51376a34", func := "loop.example/lib-g01184/laws.FnExactEqualStrings", spec := "fnExactEqualStrings", apart := false, narrowed := true }
def FnExactEqualStringsUptoSaid : Prop := fnExactEqualStringsUptoRow.holds Try.pinned (OpenSpec.upto fnExactEqualStringsSpec)

/-- 'laws.FnExactEqualKeys', WHERE WHAT IT READS IS OF BULK AT MOST 1048576: true; the input reads as it did. -/
def fnExactEqualKeysUptoRow : OpenClaim := { program := "ytgogocodhilfnaa", sum := "2f3149129317d096c6257da7305382bdd7fd47c8e486279b728df99f51376a34", func := "loop.example/lib-g01184/laws.FnExactEqualKeys", spec := "fnExactEqualKeys", unfollowed := true, recurses := true, apart := false, narrowed := true }
def FnExactEqualKeysUptoSaid : Prop := fnExactEqualKeysUptoRow.holds Try.pinned (OpenSpec.upto fnExactEqualKeysSpec)

/-- 'laws.FnExactCompareKeys', WHERE WHAT IT READS IS OF BULK AT MOST 1048576: true; the input reads as it did. -/
def fnExactCompareKeysUptoRow : OpenClaim := { program := "ytgogocodhilfnaa", sum := "2f3149129317d096c6257da7305382bdd7fd47c8e486279b728df99f51376a34", func := "loop.example/lib-g01184/laws.FnExactCompareKeys", spec := "fnExactCompareKeys", unfollowed := true, recurses := true, apart := false, narrowed := true }
def FnExactCompareKeysUptoSaid : Prop := fnExactCompareKeysUptoRow.holds Try.pinned (OpenSpec.upto fnExactCompareKeysSpec)

/-- 'laws.FnCompareIsTransitive', WHERE WHAT IT READS IS OF BULK AT MOST 1048576: true; the input reads as it did. -/
def fnCompareIsTransitiveUptoRow : OpenClaim := { program := "ytgogocodhilfnaa", sum := "2f3149129317d096c6257da7305382bdd7fd47c8e486279b728df99f51376a34", func := "loop.example/lib-g01184/laws.FnCompareIsTransitive", spec := "fnCompareIsTransitive", apart := false, narrowed := true }
def FnCompareIsTransitiveUptoSaid : Prop := fnCompareIsTransitiveUptoRow.holds Try.pinned (OpenSpec.upto fnCompareIsTransitiveSpec)

/-- 'laws.FnCompareOfBeginnings', WHERE WHAT IT READS IS OF BULK AT MOST 1048576: true; the input reads as it did. -/
def fnCompareOfBeginningsUptoRow : OpenClaim := { program := "ytgogocodhilfnaa", sum := "2f3149129317d096c6257da7305382bdd7fd47c8e486279b728df99f51376a34", func := "loop.example/lib-g01184/laws.FnCompareOfBeginnings", spec := "fnCompareOfBeginnings", apart := false, narrowed := true }
def FnCompareOfBeginningsUptoSaid : Prop := fnCompareOfBeginningsUptoRow.holds Try.pinned (OpenSpec.upto fnCompareOfBeginningsSpec)

/-- 'laws.FnExactCompareInts', WHERE WHAT IT READS IS OF BULK AT MOST 1048576: true; the input reads as it did. -/
def fnExactCompareIntsUptoRow : OpenClaim := { program := "ytgogocodhilfnaa", sum := "2f3149129317d096c6257da7305382bdd7fd47c8e486279b728df99f51376a34", func := "loop.example/lib-g01184/laws.FnExactCompareInts", spec := "fnExactCompareInts", apart := false, narrowed := true }
def FnExactCompareIntsUptoSaid : Prop := fnExactCompareIntsUptoRow.holds Try.pinned (OpenSpec.upto fnExactCompareIntsSpec)

/-- 'laws.FnExactCompareStrings', WHERE WHAT IT READS IS OF BULK AT MOST 1048576: true; the input reads as it did. -/
def fnExactCompareStringsUptoRow : OpenClaim := { program := "ytgogocodhilfnaa", sum := "2f3149129317d096c6257da7305382bdd7fd47c8e486279b728df99f51376a34", func := "loop.example/lib-g01184/laws.FnExactCompareStrings", spec := "fnExactCompareStrings", apart := false, narrowed := true }
def FnExactCompareStringsUptoSaid : Prop := fnExactCompareStringsUptoRow.holds Try.pinned (OpenSpec.upto fnExactCompareStringsSpec)

/-- 'laws.FnEqualIsCompare', WHERE WHAT IT READS IS OF BULK AT MOST 1048576: true; the input reads as it did. -/
def fnEqualIsCompareUptoRow : OpenClaim := { program := "ytgogocodhilfnaa", sum := "2f3149129317d096c6257da7305382bdd7fd47c8e486279b728df99f51376a34", func := "loop.example/lib-g01184/laws.FnEqualIsCompare", spec := "fnEqualIsCompare", apart := false, narrowed := true }
def FnEqualIsCompareUptoSaid : Prop := fnEqualIsCompareUptoRow.holds Try.pinned (OpenSpec.upto fnEqualIsCompareSpec)

/-- 'laws.FnEqualTextsIsCompare', WHERE WHAT IT READS IS OF BULK AT MOST 1048576: true; the input reads as it did. -/
def fnEqualTextsIsCompareUptoRow : OpenClaim := { program := "ytgogocodhilfnaa", sum := "2f3149129317d096c6257da7305382bdd7fd47c8e486279b728df99f51376a34", func := "loop.example/lib-g01184/laws.FnEqualTextsIsCompare", spec := "fnEqualTextsIsCompare", apart := false, narrowed := true }
def FnEqualTextsIsCompareUptoSaid : Prop := fnEqualTextsIsCompareUptoRow.holds Try.pinned (OpenSpec.upto fnEqualTextsIsCompareSpec)

/-- 'laws.FnEqualKeysIsCompare', WHERE WHAT IT READS IS OF BULK AT MOST 1048576: true; the input reads as it did. -/
def fnEqualKeysIsCompareUptoRow : OpenClaim := { program := "ytgogocodhilfnaa", sum := "2f3149129317d096c6257da7305382bdd7fd47c8e486279b728df99f51376a34", func := "loop.example/lib-g01184/laws.FnEqualKeysIsCompare", spec := "fnEqualKeysIsCompare", unfollowed := true, recurses := true, apart := false, narrowed := true }
def FnEqualKeysIsCompareUptoSaid : Prop := fnEqualKeysIsCompareUptoRow.holds Try.pinned (OpenSpec.upto fnEqualKeysIsCompareSpec)

end Rows
end Go.Proofs.Ytgogocodhilfnaa
