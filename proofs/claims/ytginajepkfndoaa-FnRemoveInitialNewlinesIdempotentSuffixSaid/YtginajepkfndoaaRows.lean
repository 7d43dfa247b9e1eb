/-
  No cell of these rows narrows 'for every input' (looked for: loops, veiled, ifaces, maps, wideKeys, modest, calm, conditions, laid).
  DERIVED. THE GIVEN ROWS OF THIS SEAT. 7 by the template 'for every input the law returns true; each argument reads behind the call as it read before'; 0 by the template 'total and deterministic' (their statements: YtginajepkfndoaaTotals.lean).
  GIVEN WITH THE SEED: the statements are not yours to turn. If you find one false, say at which input.
  Laid BY PROGRAM, IN A SANDBOX (cutbox-rows.mjs): the forced cells as the released guide's own fill.sh prints them over the translation aea9f4e83b6310e9… (all of the seat's roots in one cut). By AI agents, Wed Nov 11 2026. No macro, syntax, notation, axiom, sorry.
-/
import Derived.Test.YtginajepkfndoaaChecked
import GoSem.Claim
import GoSem.ClaimJoined
import GoSem.ClaimMapViews
import Derived.JoinedTies
import Derived.KernelRfl
namespace Go.Proofs.Ytginajepkfndoaa
/- THE CELL 'sum', in the pinned program and in every row, IS THE sha256 OF THE DUMP (.gsa) THAT YtginajepkfndoaaProg.lean LOADS. Nothing in Lean hashes anything: it is a label: what it is worth is what the hold of that sum in a sandbox is worth. -/
noncomputable def Try.pinned : Pinned := { name := "ytginajepkfndoaa", sum := "aea9f4e83b6310e95d02fd85ca6a9ef9c519dd1988986ea6d1d0377c693b8480", checked := Try.checked }
namespace Rows
def none {H : Type} : Left H := { results := [], args := [] }

/-- 'n008_77.FnLeftRecursiveDeepFindsLeftmostLeaf': WHATEVER THE INPUT: true; the input reads as it did. -/
def fnLeftRecursiveDeepFindsLeftmostLeafSpec : ChangeSpec := { name := "fnLeftRecursiveDeepFindsLeftmostLeaf", fn := fun _ => fun
  | [d1, d2, d3] => { results := [.lit (.bool true)], args := [d1, d2, d3] }
  | _ => none }
def fnLeftRecursiveDeepFindsLeftmostLeafRow : OpenClaim := { program := "ytginajepkfndoaa", sum := "aea9f4e83b6310e95d02fd85ca6a9ef9c519dd1988986ea6d1d0377c693b8480", func := "github.com/google/go-jsonnet/n008_77.FnLeftRecursiveDeepFindsLeftmostLeaf", spec := "fnLeftRecursiveDeepFindsLeftmostLeaf", unfollowed := true, recurses := true, apart := false }
def FnLeftRecursiveDeepFindsLeftmostLeafSaid : Prop := fnLeftRecursiveDeepFindsLeftmostLeafRow.holds Try.pinned (OpenSpec.ofChange fnLeftRecursiveDeepFindsLeftmostLeafSpec)

/-- ITS FALSE NEIGHBOUR: 'it returns false'. Refute it at one input. -/
def fnLeftRecursiveDeepFindsLeftmostLeafWrong : ChangeSpec := { name := "fnLeftRecursiveDeepFindsLeftmostLeaf", fn := fun _ => fun
  | [d1, d2, d3] => { results := [.lit (.bool false)], args := [d1, d2, d3] }
  | _ => none }
def FnLeftRecursiveDeepFindsLeftmostLeafWrongFalsely : Prop := fnLeftRecursiveDeepFindsLeftmostLeafRow.holds Try.pinned (OpenSpec.ofChange fnLeftRecursiveDeepFindsLeftmostLeafWrong)

/-- 'n008_77.FnOpenFodderIsLeftmostLeafFodder': WHATEVER THE INPUT: true; the input reads as it did. -/
def fnOpenFodderIsLeftmostLeafFodderSpec : ChangeSpec := { name := "fnOpenFodderIsLeftmostLeafFodder", fn := fun _ => fun
  | [d1, d2, d3] => { results := [.lit (.bool true)], args := [d1, d2, d3] }
  | _ => none }
def fnOpenFodderIsLeftmostLeafFodderRow : OpenClaim := { program := "ytginajepkfndoaa", sum := "aea9f4e83b6310e95d02fd85ca6a9ef9c519dd1988986ea6d1d0377c693b8480", func := "github.com/google/go-jsonnet/n008_77.FnOpenFodderIsLeftmostLeafFodder", spec := "fnOpenFodderIsLeftmostLeafFodder", unfollowed := true, recurses := true, apart := false }
def FnOpenFodderIsLeftmostLeafFodderSaid : Prop := fnOpenFodderIsLeftmostLeafFodderRow.holds Try.pinned (OpenSpec.ofChange fnOpenFodderIsLeftmostLeafFodderSpec)

/-- ITS FALSE NEIGHBOUR: 'it returns false'. Refute it at one input. -/
def fnOpenFodderIsLeftmostLeafFodderWrong : ChangeSpec := { name := "fnOpenFodderIsLeftmostLeafFodder", fn := fun _ => fun
  | [d1, d2, d3] => { results := [.lit (.bool false)], args := [d1, d2, d3] }
  | _ => none }
def FnOpenFodderIsLeftmostLeafFodderWrongFalsely : Prop := fnOpenFodderIsLeftmostLeafFodderRow.holds Try.pinned (OpenSpec.ofChange fnOpenFodderIsLeftmostLeafFodderWrong)

/-- 'n008_77.FnOpenFodderUnchangedByLeftWrapping': WHATEVER THE INPUT: true; the input reads as it did. -/
def fnOpenFodderUnchangedByLeftWrappingSpec : ChangeSpec := { name := "fnOpenFodderUnchangedByLeftWrapping", fn := fun _ => fun
  | [d1, d2, d3, d4] => { results := [.lit (.bool true)], args := [d1, d2, d3, d4] }
  | _ => none }
def fnOpenFodderUnchangedByLeftWrappingRow : OpenClaim := { program := "ytginajepkfndoaa", sum := "aea9f4e83b6310e95d02fd85ca6a9ef9c519dd1988986ea6d1d0377c693b8480", func := "github.com/google/go-jsonnet/n008_77.FnOpenFodderUnchangedByLeftWrapping", spec := "fnOpenFodderUnchangedByLeftWrapping", unfollowed := true, recurses := true, apart := false }
def FnOpenFodderUnchangedByLeftWrappingSaid : Prop := fnOpenFodderUnchangedByLeftWrappingRow.holds Try.pinned (OpenSpec.ofChange fnOpenFodderUnchangedByLeftWrappingSpec)

/-- ITS FALSE NEIGHBOUR: 'it returns false'. Refute it at one input. -/
def fnOpenFodderUnchangedByLeftWrappingWrong : ChangeSpec := { name := "fnOpenFodderUnchangedByLeftWrapping", fn := fun _ => fun
  | [d1, d2, d3, d4] => { results := [.lit (.bool false)], args := [d1, d2, d3, d4] }
  | _ => none }
def FnOpenFodderUnchangedByLeftWrappingWrongFalsely : Prop := fnOpenFodderUnchangedByLeftWrappingRow.holds Try.pinned (OpenSpec.ofChange fnOpenFodderUnchangedByLeftWrappingWrong)

/-- 'n008_77.FnLeftRecursiveAgreesWithOpenFodder': WHATEVER THE INPUT: true; the input reads as it did. -/
def fnLeftRecursiveAgreesWithOpenFodderSpec : ChangeSpec := { name := "fnLeftRecursiveAgreesWithOpenFodder", fn := fun _ => fun
  | [d] => { results := [.lit (.bool true)], args := [d] }
  | _ => none }
def fnLeftRecursiveAgreesWithOpenFodderRow : OpenClaim := { program := "ytginajepkfndoaa", sum := "aea9f4e83b6310e95d02fd85ca6a9ef9c519dd1988986ea6d1d0377c693b8480", func := "github.com/google/go-jsonnet/n008_77.FnLeftRecursiveAgreesWithOpenFodder", spec := "fnLeftRecursiveAgreesWithOpenFodder", unfollowed := true, recurses := true, apart := false }
def FnLeftRecursiveAgreesWithOpenFodderSaid : Prop := fnLeftRecursiveAgreesWithOpenFodderRow.holds Try.pinned (OpenSpec.ofChange fnLeftRecursiveAgreesWithOpenFodderSpec)

/-- ITS FALSE NEIGHBOUR: 'it returns false'. Refute it at one input. -/
def fnLeftRecursiveAgreesWithOpenFodderWrong : ChangeSpec := { name := "fnLeftRecursiveAgreesWithOpenFodder", fn := fun _ => fun
  | [d] => { results := [.lit (.bool false)], args := [d] }
  | _ => none }
def FnLeftRecursiveAgreesWithOpenFodderWrongFalsely : Prop := fnLeftRecursiveAgreesWithOpenFodderRow.holds Try.pinned (OpenSpec.ofChange fnLeftRecursiveAgreesWithOpenFodderWrong)

/-- 'n008_77.FnLeftRecursiveDeepShallowTableAndNil': WHATEVER THE INPUT: true; the input reads as it did. -/
def fnLeftRecursiveDeepShallowTableAndNilSpec : ChangeSpec := { name := "fnLeftRecursiveDeepShallowTableAndNil", fn := fun _ => fun
  | [d1, d2] => { results := [.lit (.bool true)], args := [d1, d2] }
  | _ => none }
def fnLeftRecursiveDeepShallowTableAndNilRow : OpenClaim := { program := "ytginajepkfndoaa", sum := "aea9f4e83b6310e95d02fd85ca6a9ef9c519dd1988986ea6d1d0377c693b8480", func := "github.com/google/go-jsonnet/n008_77.FnLeftRecursiveDeepShallowTableAndNil", spec := "fnLeftRecursiveDeepShallowTableAndNil", unfollowed := true, recurses := true, apart := false }
def FnLeftRecursiveDeepShallowTableAndNilSaid : Prop := fnLeftRecursiveDeepShallowTableAndNilRow.holds Try.pinned (OpenSpec.ofChange fnLeftRecursiveDeepShallowTableAndNilSpec)

/-- ITS FALSE NEIGHBOUR: 'it returns false'. Refute it at one input. -/
def fnLeftRecursiveDeepShallowTableAndNilWrong : ChangeSpec := { name := "fnLeftRecursiveDeepShallowTableAndNil", fn := fun _ => fun
  | [d1, d2] => { results := [.lit (.bool false)], args := [d1, d2] }
  | _ => none }
def FnLeftRecursiveDeepShallowTableAndNilWrongFalsely : Prop := fnLeftRecursiveDeepShallowTableAndNilRow.holds Try.pinned (OpenSpec.ofChange fnLeftRecursiveDeepShallowTableAndNilWrong)

/-- 'n008_77.FnRemoveInitialNewlinesDropsLeadingLineEnds': WHATEVER THE INPUT: true; the input reads as it did. -/
def fnRemoveInitialNewlinesDropsLeadingLineEndsSpec : ChangeSpec := { name := "fnRemoveInitialNewlinesDropsLeadingLineEnds", fn := fun _ => fun
  | [d1, d2, d3, d4, d5] => { results := [.lit (.bool true)], args := [d1, d2, d3, d4, d5] }
  | _ => none }
def fnRemoveInitialNewlinesDropsLeadingLineEndsRow : OpenClaim := { program := "ytginajepkfndoaa", sum := "aea9f4e83b6310e95d02fd85ca6a9ef9c519dd1988986ea6d1d0377c693b8480", func := "github.com/google/go-jsonnet/n008_77.FnRemoveInitialNewlinesDropsLeadingLineEnds", spec := "fnRemoveInitialNewlinesDropsLeadingLineEnds", unfollowed := true, recurses := true, apart := false }
def FnRemoveInitialNewlinesDropsLeadingLineEndsSaid : Prop := fnRemoveInitialNewlinesDropsLeadingLineEndsRow.holds Try.pinned (OpenSpec.ofChange fnRemoveInitialNewlinesDropsLeadingLineEndsSpec)

/-- ITS FALSE NEIGHBOUR: 'it returns false'. Refute it at one input. -/
def fnRemoveInitialNewlinesDropsLeadingLineEndsWrong : ChangeSpec := { name := "fnRemoveInitialNewlinesDropsLeadingLineEnds", fn := fun _ => fun
  | [d1, d2, d3, d4, d5] => { results := [.lit (.bool false)], args := [d1, d2, d3, d4, d5] }
  | _ => none }
def FnRemoveInitialNewlinesDropsLeadingLineEndsWrongFalsely : Prop := fnRemoveInitialNewlinesDropsLeadingLineEndsRow.holds Try.pinned (OpenSpec.ofChange fnRemoveInitialNewlinesDropsLeadingLineEndsWrong)

/-- 'n008_77.FnRemoveInitialNewlinesIdempotentSuffix': WHATEVER THE INPUT: true; the input reads as it did. -/
def fnRemoveInitialNewlinesIdempotentSuffixSpec : ChangeSpec := { name := "fnRemoveInitialNewlinesIdempotentSuffix", fn := fun _ => fun
  | [d1, d2, d3, d4, d5] => { results := [.lit (.bool true)], args := [d1, d2, d3, d4, d5] }
  | _ => none }
def fnRemoveInitialNewlinesIdempotentSuffixRow : OpenClaim := { program := "ytginajepkfndoaa", sum := "aea9f4e83b6310e95d02fd85ca6a9ef9c519dd1988986ea6d1d0377c693b8480", func := "github.com/google/go-jsonnet/n008_77.FnRemoveInitialNewlinesIdempotentSuffix", spec := "fnRemoveInitialNewlinesIdempotentSuffix", unfollowed := true, recurses := true, apart := false }
def FnRemoveInitialNewlinesIdempotentSuffixSaid : Prop := fnRemoveInitialNewlinesIdempotentSuffixRow.holds Try.pinned (OpenSpec.ofChange fnRemoveInitialNewlinesIdempotentSuffixSpec)

/-- ITS FALSE NEIGHBOUR: 'it returns false'. Refute it at one input. -/
def fnRemoveInitialNewlinesIdempotentSuffixWrong : ChangeSpec := { name := "fnRemoveInitialNewlinesIdempotentSuffix", fn := fun _ => fun
  | [d1, d2, d3, d4, d5] => { results := [.lit (.bool false)], args := [d1, d2, d3, d4, d5] }
  | _ => none }
def FnRemoveInitialNewlinesIdempotentSuffixWrongFalsely : Prop := fnRemoveInitialNewlinesIdempotentSuffixRow.holds Try.pinned (OpenSpec.ofChange fnRemoveInitialNewlinesIdempotentSuffixWrong)

/- THE SECOND FORM. 'bulk': how many values and letters a reading holds, each counted each time it is reached (what is shared counts as often as it is met; a slice's spare places count too). A statement '..UptoSaid' is the law's where the arguments, and the package variables that the reading takes, are together of bulk at most 1048576: NARROWER than '..Said'. Prove '..Said' where nothing that the law and all that it calls make is longer than what came in: it says more and counts as full. Else prove '..UptoSaid'. A law counts once. -/
mutual
def uptoBulk {H : Type} : DataW H → Nat
  | .lit (.string bytes) => bytes.length + 1
  | .lit _ => 1
  | .nil => 1
  | .ptr d => uptoBulk d + 1
  | .slice elems spare => uptoBulkAll elems + uptoBulkAll spare + 1
  | .agg parts => uptoBulkAll parts + 1
  | .iface _ d => uptoBulk d + 1
  | .map entries => uptoBulkEntries entries + 1
  | .held _ => 1
def uptoBulkAll {H : Type} : List (DataW H) → Nat
  | [] => 0
  | d :: r => uptoBulk d + uptoBulkAll r
def uptoBulkEntries {H : Type} : List (Lit × DataW H) → Nat
  | [] => 0
  | x :: r => uptoBulkEntry x + uptoBulkEntries r
def uptoBulkEntry {H : Type} : Lit × DataW H → Nat
  | (.string bytes, d) => bytes.length + uptoBulk d + 1
  | (_, d) => uptoBulk d + 1
 end
def uptoSmall : (H : Type) → List (DataW H) → Bool := fun _ ds => decide (uptoBulkAll ds ≤ 1048576)
def OpenSpec.upto (s : _root_.Go.ChangeSpec) : _root_.Go.OpenSpec := { _root_.Go.OpenSpec.ofChange s with cond := some uptoSmall }

/-- 'n008_77.FnLeftRecursiveDeepFindsLeftmostLeaf', WHERE WHAT IT READS IS OF BULK AT MOST 1048576: true; the input reads as it did. -/
def fnLeftRecursiveDeepFindsLeftmostLeafUptoRow : OpenClaim := { program := "ytginajepkfndoaa", sum := "aea9f4e83b6310e95d02fd85ca6a9ef9c519dd1988986ea6d1d0377c693b8480", func := "github.com/google/go-jsonnet/n008_77.FnLeftRecursiveDeepFindsLeftmostLeaf", spec := "fnLeftRecursiveDeepFindsLeftmostLeaf", unfollowed := true, recurses := true, apart := false, narrowed := true }
def FnLeftRecursiveDeepFindsLeftmostLeafUptoSaid : Prop := fnLeftRecursiveDeepFindsLeftmostLeafUptoRow.holds Try.pinned (OpenSpec.upto fnLeftRecursiveDeepFindsLeftmostLeafSpec)

/-- 'n008_77.FnOpenFodderIsLeftmostLeafFodder', WHERE WHAT IT READS IS OF BULK AT MOST 1048576: true; the input reads as it did. -/
def fnOpenFodderIsLeftmostLeafFodderUptoRow : OpenClaim := { program := "ytginajepkfndoaa", sum := "aea9f4e83b6310e95d02fd85ca6a9ef9c519dd1988986ea6d1d0377c693b8480", func := "github.com/google/go-jsonnet/n008_77.FnOpenFodderIsLeftmostLeafFodder", spec := "fnOpenFodderIsLeftmostLeafFodder", unfollowed := true, recurses := true, apart := false, narrowed := true }
def FnOpenFodderIsLeftmostLeafFodderUptoSaid : Prop := fnOpenFodderIsLeftmostLeafFodderUptoRow.holds Try.pinned (OpenSpec.upto fnOpenFodderIsLeftmostLeafFodderSpec)

/-- 'n008_77.FnOpenFodderUnchangedByLeftWrapping', WHERE WHAT IT READS IS OF BULK AT MOST 1048576: true; the input reads as it did. -/
def fnOpenFodderUnchangedByLeftWrappingUptoRow : OpenClaim := { program := "ytginajepkfndoaa", sum := "aea9f4e83b6310e95d02fd85ca6a9ef9c519dd1988986ea6d1d0377c693b8480", func := "github.com/google/go-jsonnet/n008_77.FnOpenFodderUnchangedByLeftWrapping", spec := "fnOpenFodderUnchangedByLeftWrapping", unfollowed := true, recurses := true, apart := false, narrowed := true }
def FnOpenFodderUnchangedByLeftWrappingUptoSaid : Prop := fnOpenFodderUnchangedByLeftWrappingUptoRow.holds Try.pinned (OpenSpec.upto fnOpenFodderUnchangedByLeftWrappingSpec)

/-- 'n008_77.FnLeftRecursiveAgreesWithOpenFodder', WHERE WHAT IT READS IS OF BULK AT MOST 1048576: true; the input reads as it did. -/
def fnLeftRecursiveAgreesWithOpenFodderUptoRow : OpenClaim := { program := "ytginajepkfndoaa", sum := "aea9f4e83b6310e95d02fd85ca6a9ef9c519dd1988986ea6d1d0377c693b8480", func := "github.com/google/go-jsonnet/n008_77.FnLeftRecursiveAgreesWithOpenFodder", spec := "fnLeftRecursiveAgreesWithOpenFodder", unfollowed := true, recurses := true, apart := false, narrowed := true }
def FnLeftRecursiveAgreesWithOpenFodderUptoSaid : Prop := fnLeftRecursiveAgreesWithOpenFodderUptoRow.holds Try.pinned (OpenSpec.upto fnLeftRecursiveAgreesWithOpenFodderSpec)

/-- 'n008_77.FnLeftRecursiveDeepShallowTableAndNil', WHERE WHAT IT READS IS OF BULK AT MOST 1048576: true; the input reads as it did. -/
def fnLeftRecursiveDeepShallowTableAndNilUptoRow : OpenClaim := { program := "ytginajepkfndoaa", sum := "aea9f4e83b6310e95d02fd85ca6a9ef9c519dd1988986ea6d1d0377c693b8480", func := "github.com/google/go-jsonnet/n008_77.FnLeftRecursiveDeepShallowTableAndNil", spec := "fnLeftRecursiveDeepShallowTableAndNil", unfollowed := true, recurses := true, apart := false, narrowed := true }
def FnLeftRecursiveDeepShallowTableAndNilUptoSaid : Prop := fnLeftRecursiveDeepShallowTableAndNilUptoRow.holds Try.pinned (OpenSpec.upto fnLeftRecursiveDeepShallowTableAndNilSpec)

/-- 'n008_77.FnRemoveInitialNewlinesDropsLeadingLineEnds', WHERE WHAT IT READS IS OF BULK AT MOST 1048576: true; the input reads as it did. -/
def fnRemoveInitialNewlinesDropsLeadingLineEndsUptoRow : OpenClaim := { program := "ytginajepkfndoaa", sum := "aea9f4e83b6310e95d02fd85ca6a9ef9c519dd1988986ea6d1d0377c693b8480", func := "github.com/google/go-jsonnet/n008_77.FnRemoveInitialNewlinesDropsLeadingLineEnds", spec := "fnRemoveInitialNewlinesDropsLeadingLineEnds", unfollowed := true, recurses := true, apart := false, narrowed := true }
def FnRemoveInitialNewlinesDropsLeadingLineEndsUptoSaid : Prop := fnRemoveInitialNewlinesDropsLeadingLineEndsUptoRow.holds Try.pinned (OpenSpec.upto fnRemoveInitialNewlinesDropsLeadingLineEndsSpec)

/-- 'n008_77.FnRemoveInitialNewlinesIdempotentSuffix', WHERE WHAT IT READS IS OF BULK AT MOST 1048576: true; the input reads as it did. -/
def fnRemoveInitialNewlinesIdempotentSuffixUptoRow : OpenClaim := { program := "ytginajepkfndoaa", sum := "aea9f4e83b6310e95d02fd85ca6a9ef9c519dd1988986ea6d1d0377c693b8480", func := "github.com/google/go-jsonnet/n008_77.FnRemoveInitialNewlinesIdempotentSuffix", spec := "fnRemoveInitialNewlinesIdempotentSuffix", unfollowed := true, recurses := true, apart := false, narrowed := true }
def FnRemoveInitialNewlinesIdempotentSuffixUptoSaid : Prop := fnRemoveInitialNewlinesIdempotentSuffixUptoRow.holds Try.pinned (OpenSpec.upto fnRemoveInitialNewlinesIdempotentSuffixSpec)

end Rows
end Go.Proofs.Ytginajepkfndoaa
