/-
  No cell of these rows narrows 'for every input' (looked for: loops, veiled, ifaces, maps, wideKeys, modest, calm, conditions, laid).
  DERIVED. THE GIVEN ROWS OF THIS SEAT. 4 by the template 'for every input the law returns true; each argument reads behind the call as it read before'; 0 by the template 'total and deterministic' (their statements: YtljfgplccnaboaaFmtTotals.lean).
  GIVEN WITH THE SEED: the statements are not yours to turn. If you find one false, say at which input.
  Laid BY PROGRAM, IN A SANDBOX (cutbox-rows.mjs): the forced cells as the released guide's own fill.sh prints them over the translation aa57ecd0749c284c… (all of the seat's roots in one cut). By AI agents, Wed Nov 11 2026. No macro, syntax, notation, axiom, sorry.
-/
import Derived.Test.YtljfgplccnaboaaFmtChecked
import GoSem.Claim
import GoSem.ClaimJoined
import GoSem.ClaimMapViews
import Derived.JoinedTies
import Derived.KernelRfl
namespace Go.Proofs.YtljfgplccnaboaaFmt
/- THE CELL 'sum', in the pinned program and in every row, IS THE sha256 OF THE DUMP (.gsa) THAT YtljfgplccnaboaaFmtProg.lean LOADS. Nothing in Lean hashes anything: it is a label: what it is worth is what the hold of that sum in a sandbox is worth. -/
noncomputable def Tryf.pinned : Pinned := { name := "ytljfgplccnaboaafmt", sum := "aa57ecd0749c284caf348e93bdf4582aa95e37e850c3a56d50f848b58331449b", checked := Tryf.checked }
namespace Rows
def none {H : Type} : Left H := { results := [], args := [] }

/-- 'n008_64.FnTopLevelImportSortsGroupsAndCollectsFirst': WHATEVER THE INPUT: true; the input reads as it did. -/
def fnTopLevelImportSortsGroupsAndCollectsFirstSpec : ChangeSpec := { name := "fnTopLevelImportSortsGroupsAndCollectsFirst", fn := fun _ => fun
  | [d1, d2] => { results := [.lit (.bool true)], args := [d1, d2] }
  | _ => none }
def fnTopLevelImportSortsGroupsAndCollectsFirstRow : OpenClaim := { program := "ytljfgplccnaboaafmt", sum := "aa57ecd0749c284caf348e93bdf4582aa95e37e850c3a56d50f848b58331449b", func := "github.com/google/go-jsonnet/n008_64.FnTopLevelImportSortsGroupsAndCollectsFirst", spec := "fnTopLevelImportSortsGroupsAndCollectsFirst", stops := ["fmt.Sprintf"], inPlace := ["fmt.Sprintf", "internal/reflectlite.ValueOf", "internal/reflectlite.Swapper", "(internal/reflectlite.Value).Len"], unfollowed := true, recurses := true, apart := false }
/-- NO THEOREM (fmt's text is open here; it may be false): for the released tool's asking of the row's closed facts alone. THE STATEMENT IS 'FnTopLevelImportSortsGroupsAndCollectsFirstToldSaid' (YtljfgplccnaboaaFmtCards.lean). -/
def FnTopLevelImportSortsGroupsAndCollectsFirstFormAsk : Prop := fnTopLevelImportSortsGroupsAndCollectsFirstRow.holds Tryf.pinned (OpenSpec.ofChange fnTopLevelImportSortsGroupsAndCollectsFirstSpec)

/-- ITS FALSE NEIGHBOUR: 'it returns false'. Refute it at one input. -/
def fnTopLevelImportSortsGroupsAndCollectsFirstWrong : ChangeSpec := { name := "fnTopLevelImportSortsGroupsAndCollectsFirst", fn := fun _ => fun
  | [d1, d2] => { results := [.lit (.bool false)], args := [d1, d2] }
  | _ => none }
def FnTopLevelImportSortsGroupsAndCollectsFirstWrongFormAsk : Prop := fnTopLevelImportSortsGroupsAndCollectsFirstRow.holds Tryf.pinned (OpenSpec.ofChange fnTopLevelImportSortsGroupsAndCollectsFirstWrong)

/-- 'n008_64.FnTopLevelImportIdempotentOnPaths': WHATEVER THE INPUT: true; the input reads as it did. -/
def fnTopLevelImportIdempotentOnPathsSpec : ChangeSpec := { name := "fnTopLevelImportIdempotentOnPaths", fn := fun _ => fun
  | [d1, d2] => { results := [.lit (.bool true)], args := [d1, d2] }
  | _ => none }
def fnTopLevelImportIdempotentOnPathsRow : OpenClaim := { program := "ytljfgplccnaboaafmt", sum := "aa57ecd0749c284caf348e93bdf4582aa95e37e850c3a56d50f848b58331449b", func := "github.com/google/go-jsonnet/n008_64.FnTopLevelImportIdempotentOnPaths", spec := "fnTopLevelImportIdempotentOnPaths", stops := ["fmt.Sprintf"], inPlace := ["fmt.Sprintf", "internal/reflectlite.ValueOf", "internal/reflectlite.Swapper", "(internal/reflectlite.Value).Len"], unfollowed := true, recurses := true, apart := false }
/-- NO THEOREM (fmt's text is open here; it may be false): for the released tool's asking of the row's closed facts alone. THE STATEMENT IS 'FnTopLevelImportIdempotentOnPathsToldSaid' (YtljfgplccnaboaaFmtCards.lean). -/
def FnTopLevelImportIdempotentOnPathsFormAsk : Prop := fnTopLevelImportIdempotentOnPathsRow.holds Tryf.pinned (OpenSpec.ofChange fnTopLevelImportIdempotentOnPathsSpec)

/-- ITS FALSE NEIGHBOUR: 'it returns false'. Refute it at one input. -/
def fnTopLevelImportIdempotentOnPathsWrong : ChangeSpec := { name := "fnTopLevelImportIdempotentOnPaths", fn := fun _ => fun
  | [d1, d2] => { results := [.lit (.bool false)], args := [d1, d2] }
  | _ => none }
def FnTopLevelImportIdempotentOnPathsWrongFormAsk : Prop := fnTopLevelImportIdempotentOnPathsRow.holds Tryf.pinned (OpenSpec.ofChange fnTopLevelImportIdempotentOnPathsWrong)

/-- 'n008_64.FnSortImportsSortsEachGroupByPath': WHATEVER THE INPUT: true; the input reads as it did. -/
def fnSortImportsSortsEachGroupByPathSpec : ChangeSpec := { name := "fnSortImportsSortsEachGroupByPath", fn := fun _ => fun
  | [d1, d2] => { results := [.lit (.bool true)], args := [d1, d2] }
  | _ => none }
def fnSortImportsSortsEachGroupByPathRow : OpenClaim := { program := "ytljfgplccnaboaafmt", sum := "aa57ecd0749c284caf348e93bdf4582aa95e37e850c3a56d50f848b58331449b", func := "github.com/google/go-jsonnet/n008_64.FnSortImportsSortsEachGroupByPath", spec := "fnSortImportsSortsEachGroupByPath", stops := ["fmt.Sprintf"], inPlace := ["fmt.Sprintf", "internal/reflectlite.ValueOf", "internal/reflectlite.Swapper", "(internal/reflectlite.Value).Len"], unfollowed := true, recurses := true, apart := false }
/-- NO THEOREM (fmt's text is open here; it may be false): for the released tool's asking of the row's closed facts alone. THE STATEMENT IS 'FnSortImportsSortsEachGroupByPathToldSaid' (YtljfgplccnaboaaFmtCards.lean). -/
def FnSortImportsSortsEachGroupByPathFormAsk : Prop := fnSortImportsSortsEachGroupByPathRow.holds Tryf.pinned (OpenSpec.ofChange fnSortImportsSortsEachGroupByPathSpec)

/-- ITS FALSE NEIGHBOUR: 'it returns false'. Refute it at one input. -/
def fnSortImportsSortsEachGroupByPathWrong : ChangeSpec := { name := "fnSortImportsSortsEachGroupByPath", fn := fun _ => fun
  | [d1, d2] => { results := [.lit (.bool false)], args := [d1, d2] }
  | _ => none }
def FnSortImportsSortsEachGroupByPathWrongFormAsk : Prop := fnSortImportsSortsEachGroupByPathRow.holds Tryf.pinned (OpenSpec.ofChange fnSortImportsSortsEachGroupByPathWrong)

/-- 'n008_64.FnSortImportsLeavesGroupWithRepeatedVariable': WHATEVER THE INPUT: true; the input reads as it did. -/
def fnSortImportsLeavesGroupWithRepeatedVariableSpec : ChangeSpec := { name := "fnSortImportsLeavesGroupWithRepeatedVariable", fn := fun _ => fun
  | [d1, d2] => { results := [.lit (.bool true)], args := [d1, d2] }
  | _ => none }
def fnSortImportsLeavesGroupWithRepeatedVariableRow : OpenClaim := { program := "ytljfgplccnaboaafmt", sum := "aa57ecd0749c284caf348e93bdf4582aa95e37e850c3a56d50f848b58331449b", func := "github.com/google/go-jsonnet/n008_64.FnSortImportsLeavesGroupWithRepeatedVariable", spec := "fnSortImportsLeavesGroupWithRepeatedVariable", stops := ["fmt.Sprintf"], inPlace := ["fmt.Sprintf", "internal/reflectlite.ValueOf", "internal/reflectlite.Swapper", "(internal/reflectlite.Value).Len"], unfollowed := true, recurses := true, apart := false }
/-- NO THEOREM (fmt's text is open here; it may be false): for the released tool's asking of the row's closed facts alone. THE STATEMENT IS 'FnSortImportsLeavesGroupWithRepeatedVariableToldSaid' (YtljfgplccnaboaaFmtCards.lean). -/
def FnSortImportsLeavesGroupWithRepeatedVariableFormAsk : Prop := fnSortImportsLeavesGroupWithRepeatedVariableRow.holds Tryf.pinned (OpenSpec.ofChange fnSortImportsLeavesGroupWithRepeatedVariableSpec)

/-- ITS FALSE NEIGHBOUR: 'it returns false'. Refute it at one input. -/
def fnSortImportsLeavesGroupWithRepeatedVariableWrong : ChangeSpec := { name := "fnSortImportsLeavesGroupWithRepeatedVariable", fn := fun _ => fun
  | [d1, d2] => { results := [.lit (.bool false)], args := [d1, d2] }
  | _ => none }
def FnSortImportsLeavesGroupWithRepeatedVariableWrongFormAsk : Prop := fnSortImportsLeavesGroupWithRepeatedVariableRow.holds Tryf.pinned (OpenSpec.ofChange fnSortImportsLeavesGroupWithRepeatedVariableWrong)

end Rows
end Go.Proofs.YtljfgplccnaboaaFmt
