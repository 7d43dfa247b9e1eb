/-
  No cell of these rows narrows 'for every input' (looked for: loops, veiled, ifaces, maps, wideKeys, modest, calm, conditions, laid).
  DERIVED. THE GIVEN ROWS OF THIS SEAT. 8 by the template 'for every input the law returns true; each argument reads behind the call as it read before'; 0 by the template 'total and deterministic' (their statements: YtdgnkkjkjdlmcaaTotals.lean).
  GIVEN WITH THE SEED: the statements are not yours to turn. If you find one false, say at which input.
  Laid BY PROGRAM, IN A SANDBOX (cutbox-rows.mjs): the forced cells as the released guide's own fill.sh prints them over the translation a65d049e699636d4… (all of the seat's roots in one cut). By AI agents, Wed Nov 11 2026. No macro, syntax, notation, axiom, sorry.
-/
import Derived.Test.YtdgnkkjkjdlmcaaChecked
import GoSem.Claim
import GoSem.ClaimJoined
import GoSem.ClaimMapViews
import Derived.JoinedTies
import Derived.KernelRfl
namespace Go.Proofs.Ytdgnkkjkjdlmcaa
/- THE CELL 'sum', in the pinned program and in every row, IS THE sha256 OF THE DUMP (.gsa) THAT YtdgnkkjkjdlmcaaProg.lean LOADS. Nothing in Lean hashes anything: it is a label: what it is worth is what the hold of that sum in a sandbox is worth. -/
noncomputable def Try.pinned : Pinned := { name := "ytdgnkkjkjdlmcaa", sum := "a65d049e699636d4187096b488ec01dddcc9a48cbe55a5d62f0b10ea3ae02afa", checked := Try.checked }
namespace Rows
def none {H : Type} : Left H := { results := [], args := [] }

/-- 'n008_162.FnLocationUnsetComesFirst': WHATEVER THE INPUT: true; the input reads as it did. -/
def fnLocationUnsetComesFirstSpec : ChangeSpec := { name := "fnLocationUnsetComesFirst", fn := fun _ => fun
  | [d1, d2, d3] => { results := [.lit (.bool true)], args := [d1, d2, d3] }
  | _ => none }
def fnLocationUnsetComesFirstRow : OpenClaim := { program := "ytdgnkkjkjdlmcaa", sum := "a65d049e699636d4187096b488ec01dddcc9a48cbe55a5d62f0b10ea3ae02afa", func := "github.com/google/go-jsonnet/n008_162.FnLocationUnsetComesFirst", spec := "fnLocationUnsetComesFirst", apart := false }
def FnLocationUnsetComesFirstSaid : Prop := fnLocationUnsetComesFirstRow.holds Try.pinned (OpenSpec.ofChange fnLocationUnsetComesFirstSpec)

/-- ITS FALSE NEIGHBOUR: 'it returns false'. Refute it at one input. -/
def fnLocationUnsetComesFirstWrong : ChangeSpec := { name := "fnLocationUnsetComesFirst", fn := fun _ => fun
  | [d1, d2, d3] => { results := [.lit (.bool false)], args := [d1, d2, d3] }
  | _ => none }
def FnLocationUnsetComesFirstWrongFalsely : Prop := fnLocationUnsetComesFirstRow.holds Try.pinned (OpenSpec.ofChange fnLocationUnsetComesFirstWrong)

/-- 'n008_162.FnLessMatchesByteOrder': WHATEVER THE INPUT: true; the input reads as it did. -/
def fnLessMatchesByteOrderSpec : ChangeSpec := { name := "fnLessMatchesByteOrder", fn := fun _ => fun
  | [d1, d2, d3] => { results := [.lit (.bool true)], args := [d1, d2, d3] }
  | _ => none }
def fnLessMatchesByteOrderRow : OpenClaim := { program := "ytdgnkkjkjdlmcaa", sum := "a65d049e699636d4187096b488ec01dddcc9a48cbe55a5d62f0b10ea3ae02afa", func := "github.com/google/go-jsonnet/n008_162.FnLessMatchesByteOrder", spec := "fnLessMatchesByteOrder", apart := false }
def FnLessMatchesByteOrderSaid : Prop := fnLessMatchesByteOrderRow.holds Try.pinned (OpenSpec.ofChange fnLessMatchesByteOrderSpec)

/-- ITS FALSE NEIGHBOUR: 'it returns false'. Refute it at one input. -/
def fnLessMatchesByteOrderWrong : ChangeSpec := { name := "fnLessMatchesByteOrder", fn := fun _ => fun
  | [d1, d2, d3] => { results := [.lit (.bool false)], args := [d1, d2, d3] }
  | _ => none }
def FnLessMatchesByteOrderWrongFalsely : Prop := fnLessMatchesByteOrderRow.holds Try.pinned (OpenSpec.ofChange fnLessMatchesByteOrderWrong)

/-- 'n008_162.FnLocationIsSetExactlyNonzeroLine': WHATEVER THE INPUT: true; the input reads as it did. -/
def fnLocationIsSetExactlyNonzeroLineSpec : ChangeSpec := { name := "fnLocationIsSetExactlyNonzeroLine", fn := fun _ => fun
  | [d1, d2] => { results := [.lit (.bool true)], args := [d1, d2] }
  | _ => none }
def fnLocationIsSetExactlyNonzeroLineRow : OpenClaim := { program := "ytdgnkkjkjdlmcaa", sum := "a65d049e699636d4187096b488ec01dddcc9a48cbe55a5d62f0b10ea3ae02afa", func := "github.com/google/go-jsonnet/n008_162.FnLocationIsSetExactlyNonzeroLine", spec := "fnLocationIsSetExactlyNonzeroLine", apart := false }
def FnLocationIsSetExactlyNonzeroLineSaid : Prop := fnLocationIsSetExactlyNonzeroLineRow.holds Try.pinned (OpenSpec.ofChange fnLocationIsSetExactlyNonzeroLineSpec)

/-- ITS FALSE NEIGHBOUR: 'it returns false'. Refute it at one input. -/
def fnLocationIsSetExactlyNonzeroLineWrong : ChangeSpec := { name := "fnLocationIsSetExactlyNonzeroLine", fn := fun _ => fun
  | [d1, d2] => { results := [.lit (.bool false)], args := [d1, d2] }
  | _ => none }
def FnLocationIsSetExactlyNonzeroLineWrongFalsely : Prop := fnLocationIsSetExactlyNonzeroLineRow.holds Try.pinned (OpenSpec.ofChange fnLocationIsSetExactlyNonzeroLineWrong)

/-- 'n008_162.FnCloneMatchesListModel': WHATEVER THE INPUT: true; the input reads as it did. -/
def fnCloneMatchesListModelSpec : ChangeSpec := { name := "fnCloneMatchesListModel", fn := fun _ => fun
  | [d1, d2] => { results := [.lit (.bool true)], args := [d1, d2] }
  | _ => none }
def fnCloneMatchesListModelRow : OpenClaim := { program := "ytdgnkkjkjdlmcaa", sum := "a65d049e699636d4187096b488ec01dddcc9a48cbe55a5d62f0b10ea3ae02afa", func := "github.com/google/go-jsonnet/n008_162.FnCloneMatchesListModel", spec := "fnCloneMatchesListModel", apart := false }
def FnCloneMatchesListModelSaid : Prop := fnCloneMatchesListModelRow.holds Try.pinned (OpenSpec.ofChange fnCloneMatchesListModelSpec)

/-- ITS FALSE NEIGHBOUR: 'it returns false'. Refute it at one input. -/
def fnCloneMatchesListModelWrong : ChangeSpec := { name := "fnCloneMatchesListModel", fn := fun _ => fun
  | [d1, d2] => { results := [.lit (.bool false)], args := [d1, d2] }
  | _ => none }
def FnCloneMatchesListModelWrongFalsely : Prop := fnCloneMatchesListModelRow.holds Try.pinned (OpenSpec.ofChange fnCloneMatchesListModelWrong)

/-- 'n008_162.FnSwapInvolutionAndSymmetry': WHATEVER THE INPUT: true; the input reads as it did. -/
def fnSwapInvolutionAndSymmetrySpec : ChangeSpec := { name := "fnSwapInvolutionAndSymmetry", fn := fun _ => fun
  | [d1, d2, d3] => { results := [.lit (.bool true)], args := [d1, d2, d3] }
  | _ => none }
def fnSwapInvolutionAndSymmetryRow : OpenClaim := { program := "ytdgnkkjkjdlmcaa", sum := "a65d049e699636d4187096b488ec01dddcc9a48cbe55a5d62f0b10ea3ae02afa", func := "github.com/google/go-jsonnet/n008_162.FnSwapInvolutionAndSymmetry", spec := "fnSwapInvolutionAndSymmetry", apart := false }
def FnSwapInvolutionAndSymmetrySaid : Prop := fnSwapInvolutionAndSymmetryRow.holds Try.pinned (OpenSpec.ofChange fnSwapInvolutionAndSymmetrySpec)

/-- ITS FALSE NEIGHBOUR: 'it returns false'. Refute it at one input. -/
def fnSwapInvolutionAndSymmetryWrong : ChangeSpec := { name := "fnSwapInvolutionAndSymmetry", fn := fun _ => fun
  | [d1, d2, d3] => { results := [.lit (.bool false)], args := [d1, d2, d3] }
  | _ => none }
def FnSwapInvolutionAndSymmetryWrongFalsely : Prop := fnSwapInvolutionAndSymmetryRow.holds Try.pinned (OpenSpec.ofChange fnSwapInvolutionAndSymmetryWrong)

/-- 'n008_162.FnSwapCaseTable': WHATEVER THE INPUT: true; the input reads as it did. -/
def fnSwapCaseTableSpec : ChangeSpec := { name := "fnSwapCaseTable", fn := fun _ => fun
  | [d1, d2, d3] => { results := [.lit (.bool true)], args := [d1, d2, d3] }
  | _ => none }
def fnSwapCaseTableRow : OpenClaim := { program := "ytdgnkkjkjdlmcaa", sum := "a65d049e699636d4187096b488ec01dddcc9a48cbe55a5d62f0b10ea3ae02afa", func := "github.com/google/go-jsonnet/n008_162.FnSwapCaseTable", spec := "fnSwapCaseTable", apart := false }
def FnSwapCaseTableSaid : Prop := fnSwapCaseTableRow.holds Try.pinned (OpenSpec.ofChange fnSwapCaseTableSpec)

/-- ITS FALSE NEIGHBOUR: 'it returns false'. Refute it at one input. -/
def fnSwapCaseTableWrong : ChangeSpec := { name := "fnSwapCaseTable", fn := fun _ => fun
  | [d1, d2, d3] => { results := [.lit (.bool false)], args := [d1, d2, d3] }
  | _ => none }
def FnSwapCaseTableWrongFalsely : Prop := fnSwapCaseTableRow.holds Try.pinned (OpenSpec.ofChange fnSwapCaseTableWrong)

/-- 'n008_162.FnLessIsStrictTotalOrder': WHATEVER THE INPUT: true; the input reads as it did. -/
def fnLessIsStrictTotalOrderSpec : ChangeSpec := { name := "fnLessIsStrictTotalOrder", fn := fun _ => fun
  | [d1, d2, d3, d4] => { results := [.lit (.bool true)], args := [d1, d2, d3, d4] }
  | _ => none }
def fnLessIsStrictTotalOrderRow : OpenClaim := { program := "ytdgnkkjkjdlmcaa", sum := "a65d049e699636d4187096b488ec01dddcc9a48cbe55a5d62f0b10ea3ae02afa", func := "github.com/google/go-jsonnet/n008_162.FnLessIsStrictTotalOrder", spec := "fnLessIsStrictTotalOrder", apart := false }
def FnLessIsStrictTotalOrderSaid : Prop := fnLessIsStrictTotalOrderRow.holds Try.pinned (OpenSpec.ofChange fnLessIsStrictTotalOrderSpec)

/-- ITS FALSE NEIGHBOUR: 'it returns false'. Refute it at one input. -/
def fnLessIsStrictTotalOrderWrong : ChangeSpec := { name := "fnLessIsStrictTotalOrder", fn := fun _ => fun
  | [d1, d2, d3, d4] => { results := [.lit (.bool false)], args := [d1, d2, d3, d4] }
  | _ => none }
def FnLessIsStrictTotalOrderWrongFalsely : Prop := fnLessIsStrictTotalOrderRow.holds Try.pinned (OpenSpec.ofChange fnLessIsStrictTotalOrderWrong)

/-- 'n008_162.FnCloneIsIndependent': WHATEVER THE INPUT: true; the input reads as it did. -/
def fnCloneIsIndependentSpec : ChangeSpec := { name := "fnCloneIsIndependent", fn := fun _ => fun
  | [d1, d2, d3] => { results := [.lit (.bool true)], args := [d1, d2, d3] }
  | _ => none }
def fnCloneIsIndependentRow : OpenClaim := { program := "ytdgnkkjkjdlmcaa", sum := "a65d049e699636d4187096b488ec01dddcc9a48cbe55a5d62f0b10ea3ae02afa", func := "github.com/google/go-jsonnet/n008_162.FnCloneIsIndependent", spec := "fnCloneIsIndependent", apart := false }
def FnCloneIsIndependentSaid : Prop := fnCloneIsIndependentRow.holds Try.pinned (OpenSpec.ofChange fnCloneIsIndependentSpec)

/-- ITS FALSE NEIGHBOUR: 'it returns false'. Refute it at one input. -/
def fnCloneIsIndependentWrong : ChangeSpec := { name := "fnCloneIsIndependent", fn := fun _ => fun
  | [d1, d2, d3] => { results := [.lit (.bool false)], args := [d1, d2, d3] }
  | _ => none }
def FnCloneIsIndependentWrongFalsely : Prop := fnCloneIsIndependentRow.holds Try.pinned (OpenSpec.ofChange fnCloneIsIndependentWrong)

/- THE SECOND FORM. 'bulk': how many values and letters a reading holds, each counted each time it is reached (what is shared counts as often as it is met; a slice's spare places count too). A statement '..UptoSaid' is the law's where the arguments, and the package variables that the reading takes, are together of bulk at most 1048576: NARROWER than '..Said'. Prove '..Said' where nothing that the law and all that it calls make is longer than what came in: it says more and counts as full. Else prove '..UptoSaid'. A law counts once. -/
mutual
def uptoBulk {H : Type} : DataW H → Nat
  | .lit (.string bytes) => bytes.length + 1
  | .lit _ => 1
  | .nil => 1
  | .ptr d => uptoBulk d + 1
  | .slice elems spare => uptoBulkAll elems + uptoBulkAll spare + 1
  | .agg parts => uptoBulkAll parts + 1
  | .iface _ d => uptoBulk d + 1
  | .map entries => uptoBulkEntries entries + 1
  | .held _ => 1
def uptoBulkAll {H : Type} : List (DataW H) → Nat
  | [] => 0
  | d :: r => uptoBulk d + uptoBulkAll r
def uptoBulkEntries {H : Type} : List (Lit × DataW H) → Nat
  | [] => 0
  | x :: r => uptoBulkEntry x + uptoBulkEntries r
def uptoBulkEntry {H : Type} : Lit × DataW H → Nat
  | (.string bytes, d) => bytes.length + uptoBulk d + 1
  | (_, d) => uptoBulk d + 1
 end
def uptoSmall : (H : Type) → List (DataW H) → Bool := fun _ ds => decide (uptoBulkAll ds ≤ 1048576)
def OpenSpec.upto (s : _root_.Go.ChangeSpec) : _root_.Go.OpenSpec := { _root_.Go.OpenSpec.ofChange s with cond := some uptoSmall }

/-- 'n008_162.FnLocationUnsetComesFirst', WHERE WHAT IT READS IS OF BULK AT MOST 1048576: true; the input reads as it did. -/
def fnLocationUnsetComesFirstUptoRow : OpenClaim := { program := "ytdgnkkjkjdlmcaa", sum := "a65d049e699636d4187096b488ec01dddcc9a48cbe55a5d62f0b10ea3ae02afa", func := "github.com/google/go-jsonnet/n008_162.FnLocationUnsetComesFirst", spec := "fnLocationUnsetComesFirst", apart := false, narrowed := true }
def FnLocationUnsetComesFirstUptoSaid : Prop := fnLocationUnsetComesFirstUptoRow.holds Try.pinned (OpenSpec.upto fnLocationUnsetComesFirstSpec)

/-- 'n008_162.FnLessMatchesByteOrder', WHERE WHAT IT READS IS OF BULK AT MOST 1048576: true; the input reads as it did. -/
def fnLessMatchesByteOrderUptoRow : OpenClaim := { program := "ytdgnkkjkjdlmcaa", sum := "a65d049e699636d4187096b488ec01dddcc9a48cbe55a5d62f0b10ea3ae02afa", func := "github.com/google/go-jsonnet/n008_162.FnLessMatchesByteOrder", spec := "fnLessMatchesByteOrder", apart := false, narrowed := true }
def FnLessMatchesByteOrderUptoSaid : Prop := fnLessMatchesByteOrderUptoRow.holds Try.pinned (OpenSpec.upto fnLessMatchesByteOrderSpec)

/-- 'n008_162.FnLocationIsSetExactlyNonzeroLine', WHERE WHAT IT READS IS OF BULK AT MOST 1048576: true; the input reads as it did. -/
def fnLocationIsSetExactlyNonzeroLineUptoRow : OpenClaim := { program := "ytdgnkkjkjdlmcaa", sum := "a65d049e699636d4187096b488ec01dddcc9a48cbe55a5d62f0b10ea3ae02afa", func := "github.com/google/go-jsonnet/n008_162.FnLocationIsSetExactlyNonzeroLine", spec := "fnLocationIsSetExactlyNonzeroLine", apart := false, narrowed := true }
def FnLocationIsSetExactlyNonzeroLineUptoSaid : Prop := fnLocationIsSetExactlyNonzeroLineUptoRow.holds Try.pinned (OpenSpec.upto fnLocationIsSetExactlyNonzeroLineSpec)

/-- 'n008_162.FnCloneMatchesListModel', WHERE WHAT IT READS IS OF BULK AT MOST 1048576: true; the input reads as it did. -/
def fnCloneMatchesListModelUptoRow : OpenClaim := { program := "ytdgnkkjkjdlmcaa", sum := "a65d049e699636d4187096b488ec01dddcc9a48cbe55a5d62f0b10ea3ae02afa", func := "github.com/google/go-jsonnet/n008_162.FnCloneMatchesListModel", spec := "fnCloneMatchesListModel", apart := false, narrowed := true }
def FnCloneMatchesListModelUptoSaid : Prop := fnCloneMatchesListModelUptoRow.holds Try.pinned (OpenSpec.upto fnCloneMatchesListModelSpec)

/-- 'n008_162.FnSwapInvolutionAndSymmetry', WHERE WHAT IT READS IS OF BULK AT MOST 1048576: true; the input reads as it did. -/
def fnSwapInvolutionAndSymmetryUptoRow : OpenClaim := { program := "ytdgnkkjkjdlmcaa", sum := "a65d049e699636d4187096b488ec01dddcc9a48cbe55a5d62f0b10ea3ae02afa", func := "github.com/google/go-jsonnet/n008_162.FnSwapInvolutionAndSymmetry", spec := "fnSwapInvolutionAndSymmetry", apart := false, narrowed := true }
def FnSwapInvolutionAndSymmetryUptoSaid : Prop := fnSwapInvolutionAndSymmetryUptoRow.holds Try.pinned (OpenSpec.upto fnSwapInvolutionAndSymmetrySpec)

/-- 'n008_162.FnSwapCaseTable', WHERE WHAT IT READS IS OF BULK AT MOST 1048576: true; the input reads as it did. -/
def fnSwapCaseTableUptoRow : OpenClaim := { program := "ytdgnkkjkjdlmcaa", sum := "a65d049e699636d4187096b488ec01dddcc9a48cbe55a5d62f0b10ea3ae02afa", func := "github.com/google/go-jsonnet/n008_162.FnSwapCaseTable", spec := "fnSwapCaseTable", apart := false, narrowed := true }
def FnSwapCaseTableUptoSaid : Prop := fnSwapCaseTableUptoRow.holds Try.pinned (OpenSpec.upto fnSwapCaseTableSpec)

/-- 'n008_162.FnLessIsStrictTotalOrder', WHERE WHAT IT READS IS OF BULK AT MOST 1048576: true; the input reads as it did. -/
def fnLessIsStrictTotalOrderUptoRow : OpenClaim := { program := "ytdgnkkjkjdlmcaa", sum := "a65d049e699636d4187096b488ec01dddcc9a48cbe55a5d62f0b10ea3ae02afa", func := "github.com/google/go-jsonnet/n008_162.FnLessIsStrictTotalOrder", spec := "fnLessIsStrictTotalOrder", apart := false, narrowed := true }
def FnLessIsStrictTotalOrderUptoSaid : Prop := fnLessIsStrictTotalOrderUptoRow.holds Try.pinned (OpenSpec.upto fnLessIsStrictTotalOrderSpec)

/-- 'n008_162.FnCloneIsIndependent', WHERE WHAT IT READS IS OF BULK AT MOST 1048576: true; the input reads as it did. -/
def fnCloneIsIndependentUptoRow : OpenClaim := { program := "ytdgnkkjkjdlmcaa", sum := "a65d049e699636d4187096b488ec01dddcc9a48cbe55a5d62f0b10ea3ae02afa", func := "github.com/google/go-jsonnet/n008_162.FnCloneIsIndependent", spec := "fnCloneIsIndependent", apart := false, narrowed := true }
def FnCloneIsIndependentUptoSaid : Prop := fnCloneIsIndependentUptoRow.holds Try.pinned (OpenSpec.upto fnCloneIsIndependentSpec)

end Rows
end Go.Proofs.Ytdgnkkjkjdlmcaa
