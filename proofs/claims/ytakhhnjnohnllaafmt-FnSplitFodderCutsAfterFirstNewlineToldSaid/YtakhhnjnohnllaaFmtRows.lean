/-
  No cell of these rows narrows 'for every input' (looked for: loops, veiled, ifaces, maps, wideKeys, modest, calm, conditions, laid).
  DERIVED. THE GIVEN ROWS OF THIS SEAT. 2 by the template 'for every input the law returns true; each argument reads behind the call as it read before'; 0 by the template 'total and deterministic' (their statements: YtakhhnjnohnllaaFmtTotals.lean).
  GIVEN WITH THE SEED: the statements are not yours to turn. If you find one false, say at which input.
  Laid BY PROGRAM, IN A SANDBOX (cutbox-rows.mjs): the forced cells as the released guide's own fill.sh prints them over the translation 31659ad1142cd738… (all of the seat's roots in one cut). By AI agents, Wed Nov 11 2026. No macro, syntax, notation, axiom, sorry.
-/
import Derived.Test.YtakhhnjnohnllaaFmtChecked
import GoSem.Claim
import GoSem.ClaimJoined
import GoSem.ClaimMapViews
import Derived.JoinedTies
import Derived.KernelRfl
namespace Go.Proofs.YtakhhnjnohnllaaFmt
/- THE CELL 'sum', in the pinned program and in every row, IS THE sha256 OF THE DUMP (.gsa) THAT YtakhhnjnohnllaaFmtProg.lean LOADS. Nothing in Lean hashes anything: it is a label: what it is worth is what the hold of that sum in a sandbox is worth. -/
noncomputable def Tryf.pinned : Pinned := { name := "ytakhhnjnohnllaafmt", sum := "31659ad1142cd738423f177d0a11d578608ba11e38dd08a85afc9461df9c0c15", checked := Tryf.checked }
namespace Rows
def none {H : Type} : Left H := { results := [], args := [] }

/-- 'n008_84.FnSplitFodderKeepsCommentsAndBlankLines': WHATEVER THE INPUT: true; the input reads as it did. -/
def fnSplitFodderKeepsCommentsAndBlankLinesSpec : ChangeSpec := { name := "fnSplitFodderKeepsCommentsAndBlankLines", fn := fun _ => fun
  | [d] => { results := [.lit (.bool true)], args := [d] }
  | _ => none }
def fnSplitFodderKeepsCommentsAndBlankLinesRow : OpenClaim := { program := "ytakhhnjnohnllaafmt", sum := "31659ad1142cd738423f177d0a11d578608ba11e38dd08a85afc9461df9c0c15", func := "github.com/google/go-jsonnet/n008_84.FnSplitFodderKeepsCommentsAndBlankLines", spec := "fnSplitFodderKeepsCommentsAndBlankLines", stops := ["fmt.Sprintf"], inPlace := ["fmt.Sprintf"], apart := false }
/-- NO THEOREM (fmt's text is open here; it may be false): for the released tool's asking of the row's closed facts alone. THE STATEMENT IS 'FnSplitFodderKeepsCommentsAndBlankLinesToldSaid' (YtakhhnjnohnllaaFmtCards.lean). -/
def FnSplitFodderKeepsCommentsAndBlankLinesFormAsk : Prop := fnSplitFodderKeepsCommentsAndBlankLinesRow.holds Tryf.pinned (OpenSpec.ofChange fnSplitFodderKeepsCommentsAndBlankLinesSpec)

/-- ITS FALSE NEIGHBOUR: 'it returns false'. Refute it at one input. -/
def fnSplitFodderKeepsCommentsAndBlankLinesWrong : ChangeSpec := { name := "fnSplitFodderKeepsCommentsAndBlankLines", fn := fun _ => fun
  | [d] => { results := [.lit (.bool false)], args := [d] }
  | _ => none }
def FnSplitFodderKeepsCommentsAndBlankLinesWrongFormAsk : Prop := fnSplitFodderKeepsCommentsAndBlankLinesRow.holds Tryf.pinned (OpenSpec.ofChange fnSplitFodderKeepsCommentsAndBlankLinesWrong)

/-- 'n008_84.FnSplitFodderCutsAfterFirstNewline': WHATEVER THE INPUT: true; the input reads as it did. -/
def fnSplitFodderCutsAfterFirstNewlineSpec : ChangeSpec := { name := "fnSplitFodderCutsAfterFirstNewline", fn := fun _ => fun
  | [d] => { results := [.lit (.bool true)], args := [d] }
  | _ => none }
def fnSplitFodderCutsAfterFirstNewlineRow : OpenClaim := { program := "ytakhhnjnohnllaafmt", sum := "31659ad1142cd738423f177d0a11d578608ba11e38dd08a85afc9461df9c0c15", func := "github.com/google/go-jsonnet/n008_84.FnSplitFodderCutsAfterFirstNewline", spec := "fnSplitFodderCutsAfterFirstNewline", stops := ["fmt.Sprintf"], inPlace := ["fmt.Sprintf"], apart := false }
/-- NO THEOREM (fmt's text is open here; it may be false): for the released tool's asking of the row's closed facts alone. THE STATEMENT IS 'FnSplitFodderCutsAfterFirstNewlineToldSaid' (YtakhhnjnohnllaaFmtCards.lean). -/
def FnSplitFodderCutsAfterFirstNewlineFormAsk : Prop := fnSplitFodderCutsAfterFirstNewlineRow.holds Tryf.pinned (OpenSpec.ofChange fnSplitFodderCutsAfterFirstNewlineSpec)

/-- ITS FALSE NEIGHBOUR: 'it returns false'. Refute it at one input. -/
def fnSplitFodderCutsAfterFirstNewlineWrong : ChangeSpec := { name := "fnSplitFodderCutsAfterFirstNewline", fn := fun _ => fun
  | [d] => { results := [.lit (.bool false)], args := [d] }
  | _ => none }
def FnSplitFodderCutsAfterFirstNewlineWrongFormAsk : Prop := fnSplitFodderCutsAfterFirstNewlineRow.holds Tryf.pinned (OpenSpec.ofChange fnSplitFodderCutsAfterFirstNewlineWrong)

end Rows
end Go.Proofs.YtakhhnjnohnllaaFmt
