/-
  No cell of these rows narrows 'for every input' (looked for: loops, veiled, ifaces, maps, wideKeys, modest, calm, conditions, laid).
  DERIVED. THE GIVEN ROWS OF THIS SEAT. 4 by the template 'for every input the law returns true; each argument reads behind the call as it read before'; 0 by the template 'total and deterministic' (their statements: YtglamlgmeknkhaaTotals.lean).
  GIVEN WITH THE SEED: the statements are not yours to turn. If you find one false, say at which input.
  Laid BY PROGRAM, IN A SANDBOX (cutbox-rows.mjs): the forced cells as the released guide's own fill.sh prints them over the translation dcbebd469ca61b40… (all of the seat's roots in one cut). By AI agents, Wed Nov 11 2026. No macro, syntax, notation, axiom, sorry.
-/
import Derived.Test.YtglamlgmeknkhaaChecked
import GoSem.Claim
import GoSem.ClaimJoined
import GoSem.ClaimMapViews
import Derived.JoinedTies
import Derived.KernelRfl
namespace Go.Proofs.Ytglamlgmeknkhaa
/- THE CELL 'sum', in the pinned program and in every row, IS THE sha256 OF THE DUMP (.gsa) THAT YtglamlgmeknkhaaProg.lean LOADS. Nothing in Lean hashes anything: it is a label: what it is worth is what the hold of that sum in a sandbox is worth. -/
noncomputable def Try.pinned : Pinned := { name := "ytglamlgmeknkhaa", sum := "dcbebd469ca61b40f173b03d31229ef163d29dd27eccadfec48063c65a42860a", checked := Try.checked }
namespace Rows
def none {H : Type} : Left H := { results := [], args := [] }

/-- 'n008_144.FnLocationBeforeLexicographic': WHATEVER THE INPUT: true; the input reads as it did. -/
def fnLocationBeforeLexicographicSpec : ChangeSpec := { name := "fnLocationBeforeLexicographic", fn := fun _ => fun
  | [d1, d2, d3, d4] => { results := [.lit (.bool true)], args := [d1, d2, d3, d4] }
  | _ => none }
def fnLocationBeforeLexicographicRow : OpenClaim := { program := "ytglamlgmeknkhaa", sum := "dcbebd469ca61b40f173b03d31229ef163d29dd27eccadfec48063c65a42860a", func := "github.com/google/go-jsonnet/n008_144.FnLocationBeforeLexicographic", spec := "fnLocationBeforeLexicographic", apart := false }
def FnLocationBeforeLexicographicSaid : Prop := fnLocationBeforeLexicographicRow.holds Try.pinned (OpenSpec.ofChange fnLocationBeforeLexicographicSpec)

/-- ITS FALSE NEIGHBOUR: 'it returns false'. Refute it at one input. -/
def fnLocationBeforeLexicographicWrong : ChangeSpec := { name := "fnLocationBeforeLexicographic", fn := fun _ => fun
  | [d1, d2, d3, d4] => { results := [.lit (.bool false)], args := [d1, d2, d3, d4] }
  | _ => none }
def FnLocationBeforeLexicographicWrongFalsely : Prop := fnLocationBeforeLexicographicRow.holds Try.pinned (OpenSpec.ofChange fnLocationBeforeLexicographicWrong)

/-- 'n008_144.FnLocationRangeIsSetExact': WHATEVER THE INPUT: true; the input reads as it did. -/
def fnLocationRangeIsSetExactSpec : ChangeSpec := { name := "fnLocationRangeIsSetExact", fn := fun _ => fun
  | [d1, d2, d3, d4, d5, d6] => { results := [.lit (.bool true)], args := [d1, d2, d3, d4, d5, d6] }
  | _ => none }
def fnLocationRangeIsSetExactRow : OpenClaim := { program := "ytglamlgmeknkhaa", sum := "dcbebd469ca61b40f173b03d31229ef163d29dd27eccadfec48063c65a42860a", func := "github.com/google/go-jsonnet/n008_144.FnLocationRangeIsSetExact", spec := "fnLocationRangeIsSetExact", apart := false }
def FnLocationRangeIsSetExactSaid : Prop := fnLocationRangeIsSetExactRow.holds Try.pinned (OpenSpec.ofChange fnLocationRangeIsSetExactSpec)

/-- ITS FALSE NEIGHBOUR: 'it returns false'. Refute it at one input. -/
def fnLocationRangeIsSetExactWrong : ChangeSpec := { name := "fnLocationRangeIsSetExact", fn := fun _ => fun
  | [d1, d2, d3, d4, d5, d6] => { results := [.lit (.bool false)], args := [d1, d2, d3, d4, d5, d6] }
  | _ => none }
def FnLocationRangeIsSetExactWrongFalsely : Prop := fnLocationRangeIsSetExactRow.holds Try.pinned (OpenSpec.ofChange fnLocationRangeIsSetExactWrong)

/-- 'n008_144.FnLocationBeforeStrictTotalOrder': WHATEVER THE INPUT: true; the input reads as it did. -/
def fnLocationBeforeStrictTotalOrderSpec : ChangeSpec := { name := "fnLocationBeforeStrictTotalOrder", fn := fun _ => fun
  | [d1, d2, d3, d4, d5, d6] => { results := [.lit (.bool true)], args := [d1, d2, d3, d4, d5, d6] }
  | _ => none }
def fnLocationBeforeStrictTotalOrderRow : OpenClaim := { program := "ytglamlgmeknkhaa", sum := "dcbebd469ca61b40f173b03d31229ef163d29dd27eccadfec48063c65a42860a", func := "github.com/google/go-jsonnet/n008_144.FnLocationBeforeStrictTotalOrder", spec := "fnLocationBeforeStrictTotalOrder", apart := false }
def FnLocationBeforeStrictTotalOrderSaid : Prop := fnLocationBeforeStrictTotalOrderRow.holds Try.pinned (OpenSpec.ofChange fnLocationBeforeStrictTotalOrderSpec)

/-- ITS FALSE NEIGHBOUR: 'it returns false'. Refute it at one input. -/
def fnLocationBeforeStrictTotalOrderWrong : ChangeSpec := { name := "fnLocationBeforeStrictTotalOrder", fn := fun _ => fun
  | [d1, d2, d3, d4, d5, d6] => { results := [.lit (.bool false)], args := [d1, d2, d3, d4, d5, d6] }
  | _ => none }
def FnLocationBeforeStrictTotalOrderWrongFalsely : Prop := fnLocationBeforeStrictTotalOrderRow.holds Try.pinned (OpenSpec.ofChange fnLocationBeforeStrictTotalOrderWrong)

/-- 'n008_144.FnLocationRangeBetweenCoversAndAbsorbs': WHATEVER THE INPUT: true; the input reads as it did. -/
def fnLocationRangeBetweenCoversAndAbsorbsSpec : ChangeSpec := { name := "fnLocationRangeBetweenCoversAndAbsorbs", fn := fun _ => fun
  | [d1, d2, d3, d4, d5, d6, d7, d8, d9, d10, d11] => { results := [.lit (.bool true)], args := [d1, d2, d3, d4, d5, d6, d7, d8, d9, d10, d11] }
  | _ => none }
def fnLocationRangeBetweenCoversAndAbsorbsRow : OpenClaim := { program := "ytglamlgmeknkhaa", sum := "dcbebd469ca61b40f173b03d31229ef163d29dd27eccadfec48063c65a42860a", func := "github.com/google/go-jsonnet/n008_144.FnLocationRangeBetweenCoversAndAbsorbs", spec := "fnLocationRangeBetweenCoversAndAbsorbs", apart := false }
def FnLocationRangeBetweenCoversAndAbsorbsSaid : Prop := fnLocationRangeBetweenCoversAndAbsorbsRow.holds Try.pinned (OpenSpec.ofChange fnLocationRangeBetweenCoversAndAbsorbsSpec)

/-- ITS FALSE NEIGHBOUR: 'it returns false'. Refute it at one input. -/
def fnLocationRangeBetweenCoversAndAbsorbsWrong : ChangeSpec := { name := "fnLocationRangeBetweenCoversAndAbsorbs", fn := fun _ => fun
  | [d1, d2, d3, d4, d5, d6, d7, d8, d9, d10, d11] => { results := [.lit (.bool false)], args := [d1, d2, d3, d4, d5, d6, d7, d8, d9, d10, d11] }
  | _ => none }
def FnLocationRangeBetweenCoversAndAbsorbsWrongFalsely : Prop := fnLocationRangeBetweenCoversAndAbsorbsRow.holds Try.pinned (OpenSpec.ofChange fnLocationRangeBetweenCoversAndAbsorbsWrong)

/- THE SECOND FORM. 'bulk': how many values and letters a reading holds, each counted each time it is reached (what is shared counts as often as it is met; a slice's spare places count too). A statement '..UptoSaid' is the law's where the arguments, and the package variables that the reading takes, are together of bulk at most 1048576: NARROWER than '..Said'. Prove '..Said' where nothing that the law and all that it calls make is longer than what came in: it says more and counts as full. Else prove '..UptoSaid'. A law counts once. -/
mutual
def uptoBulk {H : Type} : DataW H → Nat
  | .lit (.string bytes) => bytes.length + 1
  | .lit _ => 1
  | .nil => 1
  | .ptr d => uptoBulk d + 1
  | .slice elems spare => uptoBulkAll elems + uptoBulkAll spare + 1
  | .agg parts => uptoBulkAll parts + 1
  | .iface _ d => uptoBulk d + 1
  | .map entries => uptoBulkEntries entries + 1
  | .held _ => 1
def uptoBulkAll {H : Type} : List (DataW H) → Nat
  | [] => 0
  | d :: r => uptoBulk d + uptoBulkAll r
def uptoBulkEntries {H : Type} : List (Lit × DataW H) → Nat
  | [] => 0
  | x :: r => uptoBulkEntry x + uptoBulkEntries r
def uptoBulkEntry {H : Type} : Lit × DataW H → Nat
  | (.string bytes, d) => bytes.length + uptoBulk d + 1
  | (_, d) => uptoBulk d + 1
 end
def uptoSmall : (H : Type) → List (DataW H) → Bool := fun _ ds => decide (uptoBulkAll ds ≤ 1048576)
def OpenSpec.upto (s : _root_.Go.ChangeSpec) : _root_.Go.OpenSpec := { _root_.Go.OpenSpec.ofChange s with cond := some uptoSmall }

/-- 'n008_144.FnLocationBeforeLexicographic', WHERE WHAT IT READS IS OF BULK AT MOST 1048576: true; the input reads as it did. -/
def fnLocationBeforeLexicographicUptoRow : OpenClaim := { program := "ytglamlgmeknkhaa", sum := "dcbebd469ca61b40f173b03d31229ef163d29dd27eccadfec48063c65a42860a", func := "github.com/google/go-jsonnet/n008_144.FnLocationBeforeLexicographic", spec := "fnLocationBeforeLexicographic", apart := false, narrowed := true }
def FnLocationBeforeLexicographicUptoSaid : Prop := fnLocationBeforeLexicographicUptoRow.holds Try.pinned (OpenSpec.upto fnLocationBeforeLexicographicSpec)

/-- 'n008_144.FnLocationRangeIsSetExact', WHERE WHAT IT READS IS OF BULK AT MOST 1048576: true; the input reads as it did. -/
def fnLocationRangeIsSetExactUptoRow : OpenClaim := { program := "ytglamlgmeknkhaa", sum := "dcbebd469ca61b40f173b03d31229ef163d29dd27eccadfec48063c65a42860a", func := "github.com/google/go-jsonnet/n008_144.FnLocationRangeIsSetExact", spec := "fnLocationRangeIsSetExact", apart := false, narrowed := true }
def FnLocationRangeIsSetExactUptoSaid : Prop := fnLocationRangeIsSetExactUptoRow.holds Try.pinned (OpenSpec.upto fnLocationRangeIsSetExactSpec)

/-- 'n008_144.FnLocationBeforeStrictTotalOrder', WHERE WHAT IT READS IS OF BULK AT MOST 1048576: true; the input reads as it did. -/
def fnLocationBeforeStrictTotalOrderUptoRow : OpenClaim := { program := "ytglamlgmeknkhaa", sum := "dcbebd469ca61b40f173b03d31229ef163d29dd27eccadfec48063c65a42860a", func := "github.com/google/go-jsonnet/n008_144.FnLocationBeforeStrictTotalOrder", spec := "fnLocationBeforeStrictTotalOrder", apart := false, narrowed := true }
def FnLocationBeforeStrictTotalOrderUptoSaid : Prop := fnLocationBeforeStrictTotalOrderUptoRow.holds Try.pinned (OpenSpec.upto fnLocationBeforeStrictTotalOrderSpec)

/-- 'n008_144.FnLocationRangeBetweenCoversAndAbsorbs', WHERE WHAT IT READS IS OF BULK AT MOST 1048576: true; the input reads as it did. -/
def fnLocationRangeBetweenCoversAndAbsorbsUptoRow : OpenClaim := { program := "ytglamlgmeknkhaa", sum := "dcbebd469ca61b40f173b03d31229ef163d29dd27eccadfec48063c65a42860a", func := "github.com/google/go-jsonnet/n008_144.FnLocationRangeBetweenCoversAndAbsorbs", spec := "fnLocationRangeBetweenCoversAndAbsorbs", apart := false, narrowed := true }
def FnLocationRangeBetweenCoversAndAbsorbsUptoSaid : Prop := fnLocationRangeBetweenCoversAndAbsorbsUptoRow.holds Try.pinned (OpenSpec.upto fnLocationRangeBetweenCoversAndAbsorbsSpec)

end Rows
end Go.Proofs.Ytglamlgmeknkhaa
