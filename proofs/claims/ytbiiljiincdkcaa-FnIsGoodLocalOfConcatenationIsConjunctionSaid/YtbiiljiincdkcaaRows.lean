/-
  No cell of these rows narrows 'for every input' (looked for: loops, veiled, ifaces, maps, wideKeys, modest, calm, conditions, laid).
  DERIVED. THE GIVEN ROWS OF THIS SEAT. 3 by the template 'for every input the law returns true; each argument reads behind the call as it read before'; 0 by the template 'total and deterministic' (their statements: YtbiiljiincdkcaaTotals.lean).
  GIVEN WITH THE SEED: the statements are not yours to turn. If you find one false, say at which input.
  Laid BY PROGRAM, IN A SANDBOX (cutbox-rows.mjs): the forced cells as the released guide's own fill.sh prints them over the translation 00acdd17ca8be485… (all of the seat's roots in one cut). By AI agents, Wed Nov 11 2026. No macro, syntax, notation, axiom, sorry.
-/
import Derived.Test.YtbiiljiincdkcaaChecked
import GoSem.Claim
import GoSem.ClaimJoined
import GoSem.ClaimMapViews
import Derived.JoinedTies
import Derived.KernelRfl
namespace Go.Proofs.Ytbiiljiincdkcaa
/- THE CELL 'sum', in the pinned program and in every row, IS THE sha256 OF THE DUMP (.gsa) THAT YtbiiljiincdkcaaProg.lean LOADS. Nothing in Lean hashes anything: it is a label: what it is worth is what the hold of that sum in a sandbox is worth. -/
noncomputable def Try.pinned : Pinned := { name := "ytbiiljiincdkcaa", sum := "00acdd17ca8be485f1037471e1689cf2ecda594deac9b8bc7a32fd7c5307101f", checked := Try.checked }
namespace Rows
def none {H : Type} : Left H := { results := [], args := [] }

/-- 'n008_84.FnIsGoodLocalExactlyWhenEveryBindIsPlainImport': WHATEVER THE INPUT: true; the input reads as it did. -/
def fnIsGoodLocalExactlyWhenEveryBindIsPlainImportSpec : ChangeSpec := { name := "fnIsGoodLocalExactlyWhenEveryBindIsPlainImport", fn := fun _ => fun
  | [d] => { results := [.lit (.bool true)], args := [d] }
  | _ => none }
def fnIsGoodLocalExactlyWhenEveryBindIsPlainImportRow : OpenClaim := { program := "ytbiiljiincdkcaa", sum := "00acdd17ca8be485f1037471e1689cf2ecda594deac9b8bc7a32fd7c5307101f", func := "github.com/google/go-jsonnet/n008_84.FnIsGoodLocalExactlyWhenEveryBindIsPlainImport", spec := "fnIsGoodLocalExactlyWhenEveryBindIsPlainImport", apart := false }
def FnIsGoodLocalExactlyWhenEveryBindIsPlainImportSaid : Prop := fnIsGoodLocalExactlyWhenEveryBindIsPlainImportRow.holds Try.pinned (OpenSpec.ofChange fnIsGoodLocalExactlyWhenEveryBindIsPlainImportSpec)

/-- ITS FALSE NEIGHBOUR: 'it returns false'. Refute it at one input. -/
def fnIsGoodLocalExactlyWhenEveryBindIsPlainImportWrong : ChangeSpec := { name := "fnIsGoodLocalExactlyWhenEveryBindIsPlainImport", fn := fun _ => fun
  | [d] => { results := [.lit (.bool false)], args := [d] }
  | _ => none }
def FnIsGoodLocalExactlyWhenEveryBindIsPlainImportWrongFalsely : Prop := fnIsGoodLocalExactlyWhenEveryBindIsPlainImportRow.holds Try.pinned (OpenSpec.ofChange fnIsGoodLocalExactlyWhenEveryBindIsPlainImportWrong)

/-- 'n008_84.FnIsGoodLocalOfConcatenationIsConjunction': WHATEVER THE INPUT: true; the input reads as it did. -/
def fnIsGoodLocalOfConcatenationIsConjunctionSpec : ChangeSpec := { name := "fnIsGoodLocalOfConcatenationIsConjunction", fn := fun _ => fun
  | [d1, d2] => { results := [.lit (.bool true)], args := [d1, d2] }
  | _ => none }
def fnIsGoodLocalOfConcatenationIsConjunctionRow : OpenClaim := { program := "ytbiiljiincdkcaa", sum := "00acdd17ca8be485f1037471e1689cf2ecda594deac9b8bc7a32fd7c5307101f", func := "github.com/google/go-jsonnet/n008_84.FnIsGoodLocalOfConcatenationIsConjunction", spec := "fnIsGoodLocalOfConcatenationIsConjunction", apart := false }
def FnIsGoodLocalOfConcatenationIsConjunctionSaid : Prop := fnIsGoodLocalOfConcatenationIsConjunctionRow.holds Try.pinned (OpenSpec.ofChange fnIsGoodLocalOfConcatenationIsConjunctionSpec)

/-- ITS FALSE NEIGHBOUR: 'it returns false'. Refute it at one input. -/
def fnIsGoodLocalOfConcatenationIsConjunctionWrong : ChangeSpec := { name := "fnIsGoodLocalOfConcatenationIsConjunction", fn := fun _ => fun
  | [d1, d2] => { results := [.lit (.bool false)], args := [d1, d2] }
  | _ => none }
def FnIsGoodLocalOfConcatenationIsConjunctionWrongFalsely : Prop := fnIsGoodLocalOfConcatenationIsConjunctionRow.holds Try.pinned (OpenSpec.ofChange fnIsGoodLocalOfConcatenationIsConjunctionWrong)

/-- 'n008_84.FnGoodLocalOrNullCaseTable': WHATEVER THE INPUT: true; the input reads as it did. -/
def fnGoodLocalOrNullCaseTableSpec : ChangeSpec := { name := "fnGoodLocalOrNullCaseTable", fn := fun _ => fun
  | [d1, d2] => { results := [.lit (.bool true)], args := [d1, d2] }
  | _ => none }
def fnGoodLocalOrNullCaseTableRow : OpenClaim := { program := "ytbiiljiincdkcaa", sum := "00acdd17ca8be485f1037471e1689cf2ecda594deac9b8bc7a32fd7c5307101f", func := "github.com/google/go-jsonnet/n008_84.FnGoodLocalOrNullCaseTable", spec := "fnGoodLocalOrNullCaseTable", apart := false }
def FnGoodLocalOrNullCaseTableSaid : Prop := fnGoodLocalOrNullCaseTableRow.holds Try.pinned (OpenSpec.ofChange fnGoodLocalOrNullCaseTableSpec)

/-- ITS FALSE NEIGHBOUR: 'it returns false'. Refute it at one input. -/
def fnGoodLocalOrNullCaseTableWrong : ChangeSpec := { name := "fnGoodLocalOrNullCaseTable", fn := fun _ => fun
  | [d1, d2] => { results := [.lit (.bool false)], args := [d1, d2] }
  | _ => none }
def FnGoodLocalOrNullCaseTableWrongFalsely : Prop := fnGoodLocalOrNullCaseTableRow.holds Try.pinned (OpenSpec.ofChange fnGoodLocalOrNullCaseTableWrong)

/- THE SECOND FORM. 'bulk': how many values and letters a reading holds, each counted each time it is reached (what is shared counts as often as it is met; a slice's spare places count too). A statement '..UptoSaid' is the law's where the arguments, and the package variables that the reading takes, are together of bulk at most 1048576: NARROWER than '..Said'. Prove '..Said' where nothing that the law and all that it calls make is longer than what came in: it says more and counts as full. Else prove '..UptoSaid'. A law counts once. -/
mutual
def uptoBulk {H : Type} : DataW H → Nat
  | .lit (.string bytes) => bytes.length + 1
  | .lit _ => 1
  | .nil => 1
  | .ptr d => uptoBulk d + 1
  | .slice elems spare => uptoBulkAll elems + uptoBulkAll spare + 1
  | .agg parts => uptoBulkAll parts + 1
  | .iface _ d => uptoBulk d + 1
  | .map entries => uptoBulkEntries entries + 1
  | .held _ => 1
def uptoBulkAll {H : Type} : List (DataW H) → Nat
  | [] => 0
  | d :: r => uptoBulk d + uptoBulkAll r
def uptoBulkEntries {H : Type} : List (Lit × DataW H) → Nat
  | [] => 0
  | x :: r => uptoBulkEntry x + uptoBulkEntries r
def uptoBulkEntry {H : Type} : Lit × DataW H → Nat
  | (.string bytes, d) => bytes.length + uptoBulk d + 1
  | (_, d) => uptoBulk d + 1
 end
def uptoSmall : (H : Type) → List (DataW H) → Bool := fun _ ds => decide (uptoBulkAll ds ≤ 1048576)
def OpenSpec.upto (s : _root_.Go.ChangeSpec) : _root_.Go.OpenSpec := { _root_.Go.OpenSpec.ofChange s with cond := some uptoSmall }

/-- 'n008_84.FnIsGoodLocalExactlyWhenEveryBindIsPlainImport', WHERE WHAT IT READS IS OF BULK AT MOST 1048576: true; the input reads as it did. -/
def fnIsGoodLocalExactlyWhenEveryBindIsPlainImportUptoRow : OpenClaim := { program := "ytbiiljiincdkcaa", sum := "00acdd17ca8be485f1037471e1689cf2ecda594deac9b8bc7a32fd7c5307101f", func := "github.com/google/go-jsonnet/n008_84.FnIsGoodLocalExactlyWhenEveryBindIsPlainImport", spec := "fnIsGoodLocalExactlyWhenEveryBindIsPlainImport", apart := false, narrowed := true }
def FnIsGoodLocalExactlyWhenEveryBindIsPlainImportUptoSaid : Prop := fnIsGoodLocalExactlyWhenEveryBindIsPlainImportUptoRow.holds Try.pinned (OpenSpec.upto fnIsGoodLocalExactlyWhenEveryBindIsPlainImportSpec)

/-- 'n008_84.FnIsGoodLocalOfConcatenationIsConjunction', WHERE WHAT IT READS IS OF BULK AT MOST 1048576: true; the input reads as it did. -/
def fnIsGoodLocalOfConcatenationIsConjunctionUptoRow : OpenClaim := { program := "ytbiiljiincdkcaa", sum := "00acdd17ca8be485f1037471e1689cf2ecda594deac9b8bc7a32fd7c5307101f", func := "github.com/google/go-jsonnet/n008_84.FnIsGoodLocalOfConcatenationIsConjunction", spec := "fnIsGoodLocalOfConcatenationIsConjunction", apart := false, narrowed := true }
def FnIsGoodLocalOfConcatenationIsConjunctionUptoSaid : Prop := fnIsGoodLocalOfConcatenationIsConjunctionUptoRow.holds Try.pinned (OpenSpec.upto fnIsGoodLocalOfConcatenationIsConjunctionSpec)

/-- 'n008_84.FnGoodLocalOrNullCaseTable', WHERE WHAT IT READS IS OF BULK AT MOST 1048576: true; the input reads as it did. -/
def fnGoodLocalOrNullCaseTableUptoRow : OpenClaim := { program := "ytbiiljiincdkcaa", sum := "00acdd17ca8be485f1037471e1689cf2ecda594deac9b8bc7a32fd7c5307101f", func := "github.com/google/go-jsonnet/n008_84.FnGoodLocalOrNullCaseTable", spec := "fnGoodLocalOrNullCaseTable", apart := false, narrowed := true }
def FnGoodLocalOrNullCaseTableUptoSaid : Prop := fnGoodLocalOrNullCaseTableUptoRow.holds Try.pinned (OpenSpec.upto fnGoodLocalOrNullCaseTableSpec)

end Rows
end Go.Proofs.Ytbiiljiincdkcaa
