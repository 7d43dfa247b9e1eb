/-
  DERIVED. GIVEN WITH THE SEED: THE CARDS: each row of YtljfgplccnaboaaFmtRows.lean that lists a variable, with what it lists TIED to the program's text (the seventh form; the later family's looks); each row that meets fmt, with fmt's text TOLD by the authors' own Lean function (tested against real Go, not proved from fmt's source: count such statements apart). THE CARD IS WHAT COUNTS. Prove the row's statement (the work); the ties are given (YtljfgplccnaboaaFmtTie.lean); close each card by the builder's one call (the guide's Derived/Test/ToyasCard.lean, 'card_holds'). Laid BY PROGRAM, IN A SANDBOX (cutbox-door.mjs). By AI agents, Wed Nov 11 2026. No macro, syntax, notation, axiom, sorry.
-/
import Derived.Test.YtljfgplccnaboaaFmtRows
import GoSem.ClaimSeven
namespace Go.Proofs.YtljfgplccnaboaaFmt
namespace Rows

/-- THE TOLD CARD OF 'n008_64.FnTopLevelImportSortsGroupsAndCollectsFirst'. -/
def fnTopLevelImportSortsGroupsAndCollectsFirstCard : Claim7 := { stood := { row := fnTopLevelImportSortsGroupsAndCollectsFirstRow, standIns := [], harness := (true, "e056b5751fc1b4e7813921a3d588fc11b05c6cca1721c7aac7c67c066da0a4b0"), looks := true }, told := true, goes := false }
def FnTopLevelImportSortsGroupsAndCollectsFirstToldSaid : Prop := Claim7.holds Tryf.pinned (.plain (OpenSpec.ofChange fnTopLevelImportSortsGroupsAndCollectsFirstSpec)) fnTopLevelImportSortsGroupsAndCollectsFirstCard
/-- ITS FALSE NEIGHBOUR. Refute it at one input. -/
def FnTopLevelImportSortsGroupsAndCollectsFirstToldWrongFalsely : Prop := Claim7.holds Tryf.pinned (.plain (OpenSpec.ofChange fnTopLevelImportSortsGroupsAndCollectsFirstWrong)) fnTopLevelImportSortsGroupsAndCollectsFirstCard

/-- THE TOLD CARD OF 'n008_64.FnTopLevelImportIdempotentOnPaths'. -/
def fnTopLevelImportIdempotentOnPathsCard : Claim7 := { stood := { row := fnTopLevelImportIdempotentOnPathsRow, standIns := [], harness := (true, "e056b5751fc1b4e7813921a3d588fc11b05c6cca1721c7aac7c67c066da0a4b0"), looks := true }, told := true, goes := false }
def FnTopLevelImportIdempotentOnPathsToldSaid : Prop := Claim7.holds Tryf.pinned (.plain (OpenSpec.ofChange fnTopLevelImportIdempotentOnPathsSpec)) fnTopLevelImportIdempotentOnPathsCard
/-- ITS FALSE NEIGHBOUR. Refute it at one input. -/
def FnTopLevelImportIdempotentOnPathsToldWrongFalsely : Prop := Claim7.holds Tryf.pinned (.plain (OpenSpec.ofChange fnTopLevelImportIdempotentOnPathsWrong)) fnTopLevelImportIdempotentOnPathsCard

/-- THE TOLD CARD OF 'n008_64.FnSortImportsSortsEachGroupByPath'. -/
def fnSortImportsSortsEachGroupByPathCard : Claim7 := { stood := { row := fnSortImportsSortsEachGroupByPathRow, standIns := [], harness := (true, "e056b5751fc1b4e7813921a3d588fc11b05c6cca1721c7aac7c67c066da0a4b0"), looks := true }, told := true, goes := false }
def FnSortImportsSortsEachGroupByPathToldSaid : Prop := Claim7.holds Tryf.pinned (.plain (OpenSpec.ofChange fnSortImportsSortsEachGroupByPathSpec)) fnSortImportsSortsEachGroupByPathCard
/-- ITS FALSE NEIGHBOUR. Refute it at one input. -/
def FnSortImportsSortsEachGroupByPathToldWrongFalsely : Prop := Claim7.holds Tryf.pinned (.plain (OpenSpec.ofChange fnSortImportsSortsEachGroupByPathWrong)) fnSortImportsSortsEachGroupByPathCard

/-- THE TOLD CARD OF 'n008_64.FnSortImportsLeavesGroupWithRepeatedVariable'. -/
def fnSortImportsLeavesGroupWithRepeatedVariableCard : Claim7 := { stood := { row := fnSortImportsLeavesGroupWithRepeatedVariableRow, standIns := [], harness := (true, "e056b5751fc1b4e7813921a3d588fc11b05c6cca1721c7aac7c67c066da0a4b0"), looks := true }, told := true, goes := false }
def FnSortImportsLeavesGroupWithRepeatedVariableToldSaid : Prop := Claim7.holds Tryf.pinned (.plain (OpenSpec.ofChange fnSortImportsLeavesGroupWithRepeatedVariableSpec)) fnSortImportsLeavesGroupWithRepeatedVariableCard
/-- ITS FALSE NEIGHBOUR. Refute it at one input. -/
def FnSortImportsLeavesGroupWithRepeatedVariableToldWrongFalsely : Prop := Claim7.holds Tryf.pinned (.plain (OpenSpec.ofChange fnSortImportsLeavesGroupWithRepeatedVariableWrong)) fnSortImportsLeavesGroupWithRepeatedVariableCard
end Rows
end Go.Proofs.YtljfgplccnaboaaFmt
