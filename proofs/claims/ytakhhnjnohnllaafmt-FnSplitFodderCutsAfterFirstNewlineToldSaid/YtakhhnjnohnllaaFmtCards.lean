/-
  DERIVED. GIVEN WITH THE SEED: THE CARDS: each row of YtakhhnjnohnllaaFmtRows.lean that lists a variable, with what it lists TIED to the program's text (the seventh form; the later family's looks); each row that meets fmt, with fmt's text TOLD by the authors' own Lean function (tested against real Go, not proved from fmt's source: count such statements apart). THE CARD IS WHAT COUNTS. Prove the row's statement (the work); the ties are given (YtakhhnjnohnllaaFmtTie.lean); close each card by the builder's one call (the guide's Derived/Test/ToyasCard.lean, 'card_holds'). Laid BY PROGRAM, IN A SANDBOX (cutbox-door.mjs). By AI agents, Wed Nov 11 2026. No macro, syntax, notation, axiom, sorry.
-/
import Derived.Test.YtakhhnjnohnllaaFmtRows
import GoSem.ClaimSeven
namespace Go.Proofs.YtakhhnjnohnllaaFmt
namespace Rows

/-- THE TOLD CARD OF 'n008_84.FnSplitFodderKeepsCommentsAndBlankLines'. -/
def fnSplitFodderKeepsCommentsAndBlankLinesCard : Claim7 := { stood := { row := fnSplitFodderKeepsCommentsAndBlankLinesRow, standIns := [], harness := (true, "ad999de315210620c9417870c43cba5c3e3c4adf417ededdc8cb5a90b847aa4b"), looks := false }, told := true, goes := false }
def FnSplitFodderKeepsCommentsAndBlankLinesToldSaid : Prop := Claim7.holds Tryf.pinned (.plain (OpenSpec.ofChange fnSplitFodderKeepsCommentsAndBlankLinesSpec)) fnSplitFodderKeepsCommentsAndBlankLinesCard
/-- ITS FALSE NEIGHBOUR. Refute it at one input. -/
def FnSplitFodderKeepsCommentsAndBlankLinesToldWrongFalsely : Prop := Claim7.holds Tryf.pinned (.plain (OpenSpec.ofChange fnSplitFodderKeepsCommentsAndBlankLinesWrong)) fnSplitFodderKeepsCommentsAndBlankLinesCard

/-- THE TOLD CARD OF 'n008_84.FnSplitFodderCutsAfterFirstNewline'. -/
def fnSplitFodderCutsAfterFirstNewlineCard : Claim7 := { stood := { row := fnSplitFodderCutsAfterFirstNewlineRow, standIns := [], harness := (true, "ad999de315210620c9417870c43cba5c3e3c4adf417ededdc8cb5a90b847aa4b"), looks := false }, told := true, goes := false }
def FnSplitFodderCutsAfterFirstNewlineToldSaid : Prop := Claim7.holds Tryf.pinned (.plain (OpenSpec.ofChange fnSplitFodderCutsAfterFirstNewlineSpec)) fnSplitFodderCutsAfterFirstNewlineCard
/-- ITS FALSE NEIGHBOUR. Refute it at one input. -/
def FnSplitFodderCutsAfterFirstNewlineToldWrongFalsely : Prop := Claim7.holds Tryf.pinned (.plain (OpenSpec.ofChange fnSplitFodderCutsAfterFirstNewlineWrong)) fnSplitFodderCutsAfterFirstNewlineCard
end Rows
end Go.Proofs.YtakhhnjnohnllaaFmt
