/-
  No cell of these rows narrows 'for every input' (looked for: loops, veiled, ifaces, maps, wideKeys, modest, calm, conditions, laid).
  DERIVED. THE GIVEN ROWS OF THIS SEAT. 3 by the template 'for every input the law returns true; each argument reads behind the call as it read before'; 0 by the template 'total and deterministic' (their statements: YtkeiaonpgcbciaaTotals.lean).
  GIVEN WITH THE SEED: the statements are not yours to turn. If you find one false, say at which input.
  Laid BY PROGRAM, IN A SANDBOX (cutbox-rows.mjs): the forced cells as the released guide's own fill.sh prints them over the translation dbb61cfcef2d8b20… (all of the seat's roots in one cut). By AI agents, Wed Nov 11 2026. No macro, syntax, notation, axiom, sorry.
-/
import Derived.Test.YtkeiaonpgcbciaaChecked
import GoSem.Claim
import GoSem.ClaimJoined
import GoSem.ClaimMapViews
import Derived.JoinedTies
import Derived.KernelRfl
namespace Go.Proofs.Ytkeiaonpgcbciaa
/- THE CELL 'sum', in the pinned program and in every row, IS THE sha256 OF THE DUMP (.gsa) THAT YtkeiaonpgcbciaaProg.lean LOADS. Nothing in Lean hashes anything: it is a label: what it is worth is what the hold of that sum in a sandbox is worth. -/
noncomputable def Try.pinned : Pinned := { name := "ytkeiaonpgcbciaa", sum := "dbb61cfcef2d8b20382c5cc2d092706a36ba188fb47c02871b5b30ad25bbaa32", checked := Try.checked }
namespace Rows
def none {H : Type} : Left H := { results := [], args := [] }

/-- 'n008_8.FnFillLastForgetsStartAfterNewline': WHATEVER THE INPUT: true; the input reads as it did. -/
def fnFillLastForgetsStartAfterNewlineSpec : ChangeSpec := { name := "fnFillLastForgetsStartAfterNewline", fn := fun _ => fun
  | [d1, d2, d3, d4, d5, d6, d7, d8, d9, d10] => { results := [.lit (.bool true)], args := [d1, d2, d3, d4, d5, d6, d7, d8, d9, d10] }
  | _ => none }
def fnFillLastForgetsStartAfterNewlineRow : OpenClaim := { program := "ytkeiaonpgcbciaa", sum := "dbb61cfcef2d8b20382c5cc2d092706a36ba188fb47c02871b5b30ad25bbaa32", func := "github.com/google/go-jsonnet/n008_8.FnFillLastForgetsStartAfterNewline", spec := "fnFillLastForgetsStartAfterNewline", apart := false }
def FnFillLastForgetsStartAfterNewlineSaid : Prop := fnFillLastForgetsStartAfterNewlineRow.holds Try.pinned (OpenSpec.ofChange fnFillLastForgetsStartAfterNewlineSpec)

/-- ITS FALSE NEIGHBOUR: 'it returns false'. Refute it at one input. -/
def fnFillLastForgetsStartAfterNewlineWrong : ChangeSpec := { name := "fnFillLastForgetsStartAfterNewline", fn := fun _ => fun
  | [d1, d2, d3, d4, d5, d6, d7, d8, d9, d10] => { results := [.lit (.bool false)], args := [d1, d2, d3, d4, d5, d6, d7, d8, d9, d10] }
  | _ => none }
def FnFillLastForgetsStartAfterNewlineWrongFalsely : Prop := fnFillLastForgetsStartAfterNewlineRow.holds Try.pinned (OpenSpec.ofChange fnFillLastForgetsStartAfterNewlineWrong)

/-- 'n008_8.FnSetIndentsLastCallWins': WHATEVER THE INPUT: true; the input reads as it did. -/
def fnSetIndentsLastCallWinsSpec : ChangeSpec := { name := "fnSetIndentsLastCallWins", fn := fun _ => fun
  | [d1, d2, d3, d4, d5, d6, d7] => { results := [.lit (.bool true)], args := [d1, d2, d3, d4, d5, d6, d7] }
  | _ => none }
def fnSetIndentsLastCallWinsRow : OpenClaim := { program := "ytkeiaonpgcbciaa", sum := "dbb61cfcef2d8b20382c5cc2d092706a36ba188fb47c02871b5b30ad25bbaa32", func := "github.com/google/go-jsonnet/n008_8.FnSetIndentsLastCallWins", spec := "fnSetIndentsLastCallWins", apart := false }
def FnSetIndentsLastCallWinsSaid : Prop := fnSetIndentsLastCallWinsRow.holds Try.pinned (OpenSpec.ofChange fnSetIndentsLastCallWinsSpec)

/-- ITS FALSE NEIGHBOUR: 'it returns false'. Refute it at one input. -/
def fnSetIndentsLastCallWinsWrong : ChangeSpec := { name := "fnSetIndentsLastCallWins", fn := fun _ => fun
  | [d1, d2, d3, d4, d5, d6, d7] => { results := [.lit (.bool false)], args := [d1, d2, d3, d4, d5, d6, d7] }
  | _ => none }
def FnSetIndentsLastCallWinsWrongFalsely : Prop := fnSetIndentsLastCallWinsRow.holds Try.pinned (OpenSpec.ofChange fnSetIndentsLastCallWinsWrong)

/-- 'n008_8.FnSetIndentsSpec': WHATEVER THE INPUT: true; the input reads as it did. -/
def fnSetIndentsSpecSpec : ChangeSpec := { name := "fnSetIndentsSpec", fn := fun _ => fun
  | [d1, d2, d3, d4, d5, d6] => { results := [.lit (.bool true)], args := [d1, d2, d3, d4, d5, d6] }
  | _ => none }
def fnSetIndentsSpecRow : OpenClaim := { program := "ytkeiaonpgcbciaa", sum := "dbb61cfcef2d8b20382c5cc2d092706a36ba188fb47c02871b5b30ad25bbaa32", func := "github.com/google/go-jsonnet/n008_8.FnSetIndentsSpec", spec := "fnSetIndentsSpec", apart := false }
def FnSetIndentsSpecSaid : Prop := fnSetIndentsSpecRow.holds Try.pinned (OpenSpec.ofChange fnSetIndentsSpecSpec)

/-- ITS FALSE NEIGHBOUR: 'it returns false'. Refute it at one input. -/
def fnSetIndentsSpecWrong : ChangeSpec := { name := "fnSetIndentsSpec", fn := fun _ => fun
  | [d1, d2, d3, d4, d5, d6] => { results := [.lit (.bool false)], args := [d1, d2, d3, d4, d5, d6] }
  | _ => none }
def FnSetIndentsSpecWrongFalsely : Prop := fnSetIndentsSpecRow.holds Try.pinned (OpenSpec.ofChange fnSetIndentsSpecWrong)

/- THE SECOND FORM. 'bulk': how many values and letters a reading holds, each counted each time it is reached (what is shared counts as often as it is met; a slice's spare places count too). A statement '..UptoSaid' is the law's where the arguments, and the package variables that the reading takes, are together of bulk at most 1048576: NARROWER than '..Said'. Prove '..Said' where nothing that the law and all that it calls make is longer than what came in: it says more and counts as full. Else prove '..UptoSaid'. A law counts once. -/
mutual
def uptoBulk {H : Type} : DataW H → Nat
  | .lit (.string bytes) => bytes.length + 1
  | .lit _ => 1
  | .nil => 1
  | .ptr d => uptoBulk d + 1
  | .slice elems spare => uptoBulkAll elems + uptoBulkAll spare + 1
  | .agg parts => uptoBulkAll parts + 1
  | .iface _ d => uptoBulk d + 1
  | .map entries => uptoBulkEntries entries + 1
  | .held _ => 1
def uptoBulkAll {H : Type} : List (DataW H) → Nat
  | [] => 0
  | d :: r => uptoBulk d + uptoBulkAll r
def uptoBulkEntries {H : Type} : List (Lit × DataW H) → Nat
  | [] => 0
  | x :: r => uptoBulkEntry x + uptoBulkEntries r
def uptoBulkEntry {H : Type} : Lit × DataW H → Nat
  | (.string bytes, d) => bytes.length + uptoBulk d + 1
  | (_, d) => uptoBulk d + 1
 end
def uptoSmall : (H : Type) → List (DataW H) → Bool := fun _ ds => decide (uptoBulkAll ds ≤ 1048576)
def OpenSpec.upto (s : _root_.Go.ChangeSpec) : _root_.Go.OpenSpec := { _root_.Go.OpenSpec.ofChange s with cond := some uptoSmall }

/-- 'n008_8.FnFillLastForgetsStartAfterNewline', WHERE WHAT IT READS IS OF BULK AT MOST 1048576: true; the input reads as it did. -/
def fnFillLastForgetsStartAfterNewlineUptoRow : OpenClaim := { program := "ytkeiaonpgcbciaa", sum := "dbb61cfcef2d8b20382c5cc2d092706a36ba188fb47c02871b5b30ad25bbaa32", func := "github.com/google/go-jsonnet/n008_8.FnFillLastForgetsStartAfterNewline", spec := "fnFillLastForgetsStartAfterNewline", apart := false, narrowed := true }
def FnFillLastForgetsStartAfterNewlineUptoSaid : Prop := fnFillLastForgetsStartAfterNewlineUptoRow.holds Try.pinned (OpenSpec.upto fnFillLastForgetsStartAfterNewlineSpec)

/-- 'n008_8.FnSetIndentsLastCallWins', WHERE WHAT IT READS IS OF BULK AT MOST 1048576: true; the input reads as it did. -/
def fnSetIndentsLastCallWinsUptoRow : OpenClaim := { program := "ytkeiaonpgcbciaa", sum := "dbb61cfcef2d8b20382c5cc2d092706a36ba188fb47c02871b5b30ad25bbaa32", func := "github.com/google/go-jsonnet/n008_8.FnSetIndentsLastCallWins", spec := "fnSetIndentsLastCallWins", apart := false, narrowed := true }
def FnSetIndentsLastCallWinsUptoSaid : Prop := fnSetIndentsLastCallWinsUptoRow.holds Try.pinned (OpenSpec.upto fnSetIndentsLastCallWinsSpec)

/-- 'n008_8.FnSetIndentsSpec', WHERE WHAT IT READS IS OF BULK AT MOST 1048576: true; the input reads as it did. -/
def fnSetIndentsSpecUptoRow : OpenClaim := { program := "ytkeiaonpgcbciaa", sum := "dbb61cfcef2d8b20382c5cc2d092706a36ba188fb47c02871b5b30ad25bbaa32", func := "github.com/google/go-jsonnet/n008_8.FnSetIndentsSpec", spec := "fnSetIndentsSpec", apart := false, narrowed := true }
def FnSetIndentsSpecUptoSaid : Prop := fnSetIndentsSpecUptoRow.holds Try.pinned (OpenSpec.upto fnSetIndentsSpecSpec)

end Rows
end Go.Proofs.Ytkeiaonpgcbciaa
