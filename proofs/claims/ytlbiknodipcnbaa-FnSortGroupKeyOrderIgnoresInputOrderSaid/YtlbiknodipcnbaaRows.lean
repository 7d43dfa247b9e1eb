/-
  No cell of these rows narrows 'for every input' (looked for: loops, veiled, ifaces, maps, wideKeys, modest, calm, conditions, laid).
  DERIVED. THE GIVEN ROWS OF THIS SEAT. 2 by the template 'for every input the law returns true; each argument reads behind the call as it read before'; 0 by the template 'total and deterministic' (their statements: YtlbiknodipcnbaaTotals.lean).
  GIVEN WITH THE SEED: the statements are not yours to turn. If you find one false, say at which input.
  Laid BY PROGRAM, IN A SANDBOX (cutbox-rows.mjs): the forced cells as the released guide's own fill.sh prints them over the translation 4ccbfc3f8f13be20… (all of the seat's roots in one cut). By AI agents, Wed Nov 11 2026. No macro, syntax, notation, axiom, sorry.
-/
import Derived.Test.YtlbiknodipcnbaaChecked
import GoSem.Claim
import GoSem.ClaimJoined
import GoSem.ClaimMapViews
import Derived.JoinedTies
import Derived.KernelRfl
namespace Go.Proofs.Ytlbiknodipcnbaa
/- THE CELL 'sum', in the pinned program and in every row, IS THE sha256 OF THE DUMP (.gsa) THAT YtlbiknodipcnbaaProg.lean LOADS. Nothing in Lean hashes anything: it is a label: what it is worth is what the hold of that sum in a sandbox is worth. -/
noncomputable def Try.pinned : Pinned := { name := "ytlbiknodipcnbaa", sum := "4ccbfc3f8f13be2015957dc6e53a5b489907eabe3104cb07e20c265d38b665f6", checked := Try.checked }
namespace Rows
def none {H : Type} : Left H := { results := [], args := [] }

/-- 'n008_84.FnSortGroupSortsByKeyUnlessVariablesRepeat': WHATEVER THE INPUT: true; the input reads as it did. -/
def fnSortGroupSortsByKeyUnlessVariablesRepeatSpec : ChangeSpec := { name := "fnSortGroupSortsByKeyUnlessVariablesRepeat", fn := fun _ => fun
  | [d] => { results := [.lit (.bool true)], args := [d] }
  | _ => none }
def fnSortGroupSortsByKeyUnlessVariablesRepeatRow : OpenClaim := { program := "ytlbiknodipcnbaa", sum := "4ccbfc3f8f13be2015957dc6e53a5b489907eabe3104cb07e20c265d38b665f6", func := "github.com/google/go-jsonnet/n008_84.FnSortGroupSortsByKeyUnlessVariablesRepeat", spec := "fnSortGroupSortsByKeyUnlessVariablesRepeat", inPlace := ["internal/reflectlite.ValueOf", "internal/reflectlite.Swapper", "(internal/reflectlite.Value).Len"], unfollowed := true, recurses := true, apart := false }
def FnSortGroupSortsByKeyUnlessVariablesRepeatSaid : Prop := fnSortGroupSortsByKeyUnlessVariablesRepeatRow.holds Try.pinned (OpenSpec.ofChange fnSortGroupSortsByKeyUnlessVariablesRepeatSpec)

/-- ITS FALSE NEIGHBOUR: 'it returns false'. Refute it at one input. -/
def fnSortGroupSortsByKeyUnlessVariablesRepeatWrong : ChangeSpec := { name := "fnSortGroupSortsByKeyUnlessVariablesRepeat", fn := fun _ => fun
  | [d] => { results := [.lit (.bool false)], args := [d] }
  | _ => none }
def FnSortGroupSortsByKeyUnlessVariablesRepeatWrongFalsely : Prop := fnSortGroupSortsByKeyUnlessVariablesRepeatRow.holds Try.pinned (OpenSpec.ofChange fnSortGroupSortsByKeyUnlessVariablesRepeatWrong)

/-- 'n008_84.FnSortGroupKeyOrderIgnoresInputOrder': WHATEVER THE INPUT: true; the input reads as it did. -/
def fnSortGroupKeyOrderIgnoresInputOrderSpec : ChangeSpec := { name := "fnSortGroupKeyOrderIgnoresInputOrder", fn := fun _ => fun
  | [d] => { results := [.lit (.bool true)], args := [d] }
  | _ => none }
def fnSortGroupKeyOrderIgnoresInputOrderRow : OpenClaim := { program := "ytlbiknodipcnbaa", sum := "4ccbfc3f8f13be2015957dc6e53a5b489907eabe3104cb07e20c265d38b665f6", func := "github.com/google/go-jsonnet/n008_84.FnSortGroupKeyOrderIgnoresInputOrder", spec := "fnSortGroupKeyOrderIgnoresInputOrder", inPlace := ["internal/reflectlite.ValueOf", "internal/reflectlite.Swapper", "(internal/reflectlite.Value).Len"], unfollowed := true, recurses := true, apart := false }
def FnSortGroupKeyOrderIgnoresInputOrderSaid : Prop := fnSortGroupKeyOrderIgnoresInputOrderRow.holds Try.pinned (OpenSpec.ofChange fnSortGroupKeyOrderIgnoresInputOrderSpec)

/-- ITS FALSE NEIGHBOUR: 'it returns false'. Refute it at one input. -/
def fnSortGroupKeyOrderIgnoresInputOrderWrong : ChangeSpec := { name := "fnSortGroupKeyOrderIgnoresInputOrder", fn := fun _ => fun
  | [d] => { results := [.lit (.bool false)], args := [d] }
  | _ => none }
def FnSortGroupKeyOrderIgnoresInputOrderWrongFalsely : Prop := fnSortGroupKeyOrderIgnoresInputOrderRow.holds Try.pinned (OpenSpec.ofChange fnSortGroupKeyOrderIgnoresInputOrderWrong)

/- THE SECOND FORM. 'bulk': how many values and letters a reading holds, each counted each time it is reached (what is shared counts as often as it is met; a slice's spare places count too). A statement '..UptoSaid' is the law's where the arguments, and the package variables that the reading takes, are together of bulk at most 1048576: NARROWER than '..Said'. Prove '..Said' where nothing that the law and all that it calls make is longer than what came in: it says more and counts as full. Else prove '..UptoSaid'. A law counts once. -/
mutual
def uptoBulk {H : Type} : DataW H → Nat
  | .lit (.string bytes) => bytes.length + 1
  | .lit _ => 1
  | .nil => 1
  | .ptr d => uptoBulk d + 1
  | .slice elems spare => uptoBulkAll elems + uptoBulkAll spare + 1
  | .agg parts => uptoBulkAll parts + 1
  | .iface _ d => uptoBulk d + 1
  | .map entries => uptoBulkEntries entries + 1
  | .held _ => 1
def uptoBulkAll {H : Type} : List (DataW H) → Nat
  | [] => 0
  | d :: r => uptoBulk d + uptoBulkAll r
def uptoBulkEntries {H : Type} : List (Lit × DataW H) → Nat
  | [] => 0
  | x :: r => uptoBulkEntry x + uptoBulkEntries r
def uptoBulkEntry {H : Type} : Lit × DataW H → Nat
  | (.string bytes, d) => bytes.length + uptoBulk d + 1
  | (_, d) => uptoBulk d + 1
 end
def uptoSmall : (H : Type) → List (DataW H) → Bool := fun _ ds => decide (uptoBulkAll ds ≤ 1048576)
def OpenSpec.upto (s : _root_.Go.ChangeSpec) : _root_.Go.OpenSpec := { _root_.Go.OpenSpec.ofChange s with cond := some uptoSmall }

/-- 'n008_84.FnSortGroupSortsByKeyUnlessVariablesRepeat', WHERE WHAT IT READS IS OF BULK AT MOST 1048576: true; the input reads as it did. -/
def fnSortGroupSortsByKeyUnlessVariablesRepeatUptoRow : OpenClaim := { program := "ytlbiknodipcnbaa", sum := "4ccbfc3f8f13be2015957dc6e53a5b489907eabe3104cb07e20c265d38b665f6", func := "github.com/google/go-jsonnet/n008_84.FnSortGroupSortsByKeyUnlessVariablesRepeat", spec := "fnSortGroupSortsByKeyUnlessVariablesRepeat", inPlace := ["internal/reflectlite.ValueOf", "internal/reflectlite.Swapper", "(internal/reflectlite.Value).Len"], unfollowed := true, recurses := true, apart := false, narrowed := true }
def FnSortGroupSortsByKeyUnlessVariablesRepeatUptoSaid : Prop := fnSortGroupSortsByKeyUnlessVariablesRepeatUptoRow.holds Try.pinned (OpenSpec.upto fnSortGroupSortsByKeyUnlessVariablesRepeatSpec)

/-- 'n008_84.FnSortGroupKeyOrderIgnoresInputOrder', WHERE WHAT IT READS IS OF BULK AT MOST 1048576: true; the input reads as it did. -/
def fnSortGroupKeyOrderIgnoresInputOrderUptoRow : OpenClaim := { program := "ytlbiknodipcnbaa", sum := "4ccbfc3f8f13be2015957dc6e53a5b489907eabe3104cb07e20c265d38b665f6", func := "github.com/google/go-jsonnet/n008_84.FnSortGroupKeyOrderIgnoresInputOrder", spec := "fnSortGroupKeyOrderIgnoresInputOrder", inPlace := ["internal/reflectlite.ValueOf", "internal/reflectlite.Swapper", "(internal/reflectlite.Value).Len"], unfollowed := true, recurses := true, apart := false, narrowed := true }
def FnSortGroupKeyOrderIgnoresInputOrderUptoSaid : Prop := fnSortGroupKeyOrderIgnoresInputOrderUptoRow.holds Try.pinned (OpenSpec.upto fnSortGroupKeyOrderIgnoresInputOrderSpec)

end Rows
end Go.Proofs.Ytlbiknodipcnbaa
