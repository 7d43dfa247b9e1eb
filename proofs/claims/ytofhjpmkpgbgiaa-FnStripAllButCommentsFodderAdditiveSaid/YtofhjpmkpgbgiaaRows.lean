/-
  No cell of these rows narrows 'for every input' (looked for: loops, veiled, ifaces, maps, wideKeys, modest, calm, conditions, laid).
  DERIVED. THE GIVEN ROWS OF THIS SEAT. 6 by the template 'for every input the law returns true; each argument reads behind the call as it read before'; 0 by the template 'total and deterministic' (their statements: YtofhjpmkpgbgiaaTotals.lean).
  GIVEN WITH THE SEED: the statements are not yours to turn. If you find one false, say at which input.
  Laid BY PROGRAM, IN A SANDBOX (cutbox-rows.mjs): the forced cells as the released guide's own fill.sh prints them over the translation df08edddba732ac5… (all of the seat's roots in one cut). By AI agents, Wed Nov 11 2026. No macro, syntax, notation, axiom, sorry.
-/
import Derived.Test.YtofhjpmkpgbgiaaChecked
import GoSem.Claim
import GoSem.ClaimJoined
import GoSem.ClaimMapViews
import Derived.JoinedTies
import Derived.KernelRfl
namespace Go.Proofs.Ytofhjpmkpgbgiaa
/- THE CELL 'sum', in the pinned program and in every row, IS THE sha256 OF THE DUMP (.gsa) THAT YtofhjpmkpgbgiaaProg.lean LOADS. Nothing in Lean hashes anything: it is a label: what it is worth is what the hold of that sum in a sandbox is worth. -/
noncomputable def Try.pinned : Pinned := { name := "ytofhjpmkpgbgiaa", sum := "df08edddba732ac59cb8d022d5db1d87938e46e10b33535a877218670c66bc1a", checked := Try.checked }
namespace Rows
def none {H : Type} : Left H := { results := [], args := [] }

/-- 'n008_56.FnStripCommentsIdempotent': WHATEVER THE INPUT: true; the input reads as it did. -/
def fnStripCommentsIdempotentSpec : ChangeSpec := { name := "fnStripCommentsIdempotent", fn := fun _ => fun
  | [d] => { results := [.lit (.bool true)], args := [d] }
  | _ => none }
def fnStripCommentsIdempotentRow : OpenClaim := { program := "ytofhjpmkpgbgiaa", sum := "df08edddba732ac59cb8d022d5db1d87938e46e10b33535a877218670c66bc1a", func := "github.com/google/go-jsonnet/n008_56.FnStripCommentsIdempotent", spec := "fnStripCommentsIdempotent", apart := false }
def FnStripCommentsIdempotentSaid : Prop := fnStripCommentsIdempotentRow.holds Try.pinned (OpenSpec.ofChange fnStripCommentsIdempotentSpec)

/-- ITS FALSE NEIGHBOUR: 'it returns false'. Refute it at one input. -/
def fnStripCommentsIdempotentWrong : ChangeSpec := { name := "fnStripCommentsIdempotent", fn := fun _ => fun
  | [d] => { results := [.lit (.bool false)], args := [d] }
  | _ => none }
def FnStripCommentsIdempotentWrongFalsely : Prop := fnStripCommentsIdempotentRow.holds Try.pinned (OpenSpec.ofChange fnStripCommentsIdempotentWrong)

/-- 'n008_56.FnStripAllButCommentsFileIdempotent': WHATEVER THE INPUT: true; the input reads as it did. -/
def fnStripAllButCommentsFileIdempotentSpec : ChangeSpec := { name := "fnStripAllButCommentsFileIdempotent", fn := fun _ => fun
  | [d1, d2, d3, d4] => { results := [.lit (.bool true)], args := [d1, d2, d3, d4] }
  | _ => none }
def fnStripAllButCommentsFileIdempotentRow : OpenClaim := { program := "ytofhjpmkpgbgiaa", sum := "df08edddba732ac59cb8d022d5db1d87938e46e10b33535a877218670c66bc1a", func := "github.com/google/go-jsonnet/n008_56.FnStripAllButCommentsFileIdempotent", spec := "fnStripAllButCommentsFileIdempotent", unfollowed := true, recurses := true, apart := false }
def FnStripAllButCommentsFileIdempotentSaid : Prop := fnStripAllButCommentsFileIdempotentRow.holds Try.pinned (OpenSpec.ofChange fnStripAllButCommentsFileIdempotentSpec)

/-- ITS FALSE NEIGHBOUR: 'it returns false'. Refute it at one input. -/
def fnStripAllButCommentsFileIdempotentWrong : ChangeSpec := { name := "fnStripAllButCommentsFileIdempotent", fn := fun _ => fun
  | [d1, d2, d3, d4] => { results := [.lit (.bool false)], args := [d1, d2, d3, d4] }
  | _ => none }
def FnStripAllButCommentsFileIdempotentWrongFalsely : Prop := fnStripAllButCommentsFileIdempotentRow.holds Try.pinned (OpenSpec.ofChange fnStripAllButCommentsFileIdempotentWrong)

/-- 'n008_56.FnStripAllButCommentsFodderAdditive': WHATEVER THE INPUT: true; the input reads as it did. -/
def fnStripAllButCommentsFodderAdditiveSpec : ChangeSpec := { name := "fnStripAllButCommentsFodderAdditive", fn := fun _ => fun
  | [d1, d2] => { results := [.lit (.bool true)], args := [d1, d2] }
  | _ => none }
def fnStripAllButCommentsFodderAdditiveRow : OpenClaim := { program := "ytofhjpmkpgbgiaa", sum := "df08edddba732ac59cb8d022d5db1d87938e46e10b33535a877218670c66bc1a", func := "github.com/google/go-jsonnet/n008_56.FnStripAllButCommentsFodderAdditive", spec := "fnStripAllButCommentsFodderAdditive", apart := false }
def FnStripAllButCommentsFodderAdditiveSaid : Prop := fnStripAllButCommentsFodderAdditiveRow.holds Try.pinned (OpenSpec.ofChange fnStripAllButCommentsFodderAdditiveSpec)

/-- ITS FALSE NEIGHBOUR: 'it returns false'. Refute it at one input. -/
def fnStripAllButCommentsFodderAdditiveWrong : ChangeSpec := { name := "fnStripAllButCommentsFodderAdditive", fn := fun _ => fun
  | [d1, d2] => { results := [.lit (.bool false)], args := [d1, d2] }
  | _ => none }
def FnStripAllButCommentsFodderAdditiveWrongFalsely : Prop := fnStripAllButCommentsFodderAdditiveRow.holds Try.pinned (OpenSpec.ofChange fnStripAllButCommentsFodderAdditiveWrong)

/-- 'n008_56.FnStripAllButCommentsFodderExact': WHATEVER THE INPUT: true; the input reads as it did. -/
def fnStripAllButCommentsFodderExactSpec : ChangeSpec := { name := "fnStripAllButCommentsFodderExact", fn := fun _ => fun
  | [d1, d2] => { results := [.lit (.bool true)], args := [d1, d2] }
  | _ => none }
def fnStripAllButCommentsFodderExactRow : OpenClaim := { program := "ytofhjpmkpgbgiaa", sum := "df08edddba732ac59cb8d022d5db1d87938e46e10b33535a877218670c66bc1a", func := "github.com/google/go-jsonnet/n008_56.FnStripAllButCommentsFodderExact", spec := "fnStripAllButCommentsFodderExact", apart := false }
def FnStripAllButCommentsFodderExactSaid : Prop := fnStripAllButCommentsFodderExactRow.holds Try.pinned (OpenSpec.ofChange fnStripAllButCommentsFodderExactSpec)

/-- ITS FALSE NEIGHBOUR: 'it returns false'. Refute it at one input. -/
def fnStripAllButCommentsFodderExactWrong : ChangeSpec := { name := "fnStripAllButCommentsFodderExact", fn := fun _ => fun
  | [d1, d2] => { results := [.lit (.bool false)], args := [d1, d2] }
  | _ => none }
def FnStripAllButCommentsFodderExactWrongFalsely : Prop := fnStripAllButCommentsFodderExactRow.holds Try.pinned (OpenSpec.ofChange fnStripAllButCommentsFodderExactWrong)

/-- 'n008_56.FnStripCommentsKeepsExactlyLineEnds': WHATEVER THE INPUT: true; the input reads as it did. -/
def fnStripCommentsKeepsExactlyLineEndsSpec : ChangeSpec := { name := "fnStripCommentsKeepsExactlyLineEnds", fn := fun _ => fun
  | [d] => { results := [.lit (.bool true)], args := [d] }
  | _ => none }
def fnStripCommentsKeepsExactlyLineEndsRow : OpenClaim := { program := "ytofhjpmkpgbgiaa", sum := "df08edddba732ac59cb8d022d5db1d87938e46e10b33535a877218670c66bc1a", func := "github.com/google/go-jsonnet/n008_56.FnStripCommentsKeepsExactlyLineEnds", spec := "fnStripCommentsKeepsExactlyLineEnds", apart := false }
def FnStripCommentsKeepsExactlyLineEndsSaid : Prop := fnStripCommentsKeepsExactlyLineEndsRow.holds Try.pinned (OpenSpec.ofChange fnStripCommentsKeepsExactlyLineEndsSpec)

/-- ITS FALSE NEIGHBOUR: 'it returns false'. Refute it at one input. -/
def fnStripCommentsKeepsExactlyLineEndsWrong : ChangeSpec := { name := "fnStripCommentsKeepsExactlyLineEnds", fn := fun _ => fun
  | [d] => { results := [.lit (.bool false)], args := [d] }
  | _ => none }
def FnStripCommentsKeepsExactlyLineEndsWrongFalsely : Prop := fnStripCommentsKeepsExactlyLineEndsRow.holds Try.pinned (OpenSpec.ofChange fnStripCommentsKeepsExactlyLineEndsWrong)

/-- 'n008_56.FnStripAllButCommentsFileExact': WHATEVER THE INPUT: true; the input reads as it did. -/
def fnStripAllButCommentsFileExactSpec : ChangeSpec := { name := "fnStripAllButCommentsFileExact", fn := fun _ => fun
  | [d1, d2, d3, d4, d5] => { results := [.lit (.bool true)], args := [d1, d2, d3, d4, d5] }
  | _ => none }
def fnStripAllButCommentsFileExactRow : OpenClaim := { program := "ytofhjpmkpgbgiaa", sum := "df08edddba732ac59cb8d022d5db1d87938e46e10b33535a877218670c66bc1a", func := "github.com/google/go-jsonnet/n008_56.FnStripAllButCommentsFileExact", spec := "fnStripAllButCommentsFileExact", unfollowed := true, recurses := true, apart := false }
def FnStripAllButCommentsFileExactSaid : Prop := fnStripAllButCommentsFileExactRow.holds Try.pinned (OpenSpec.ofChange fnStripAllButCommentsFileExactSpec)

/-- ITS FALSE NEIGHBOUR: 'it returns false'. Refute it at one input. -/
def fnStripAllButCommentsFileExactWrong : ChangeSpec := { name := "fnStripAllButCommentsFileExact", fn := fun _ => fun
  | [d1, d2, d3, d4, d5] => { results := [.lit (.bool false)], args := [d1, d2, d3, d4, d5] }
  | _ => none }
def FnStripAllButCommentsFileExactWrongFalsely : Prop := fnStripAllButCommentsFileExactRow.holds Try.pinned (OpenSpec.ofChange fnStripAllButCommentsFileExactWrong)

/- THE SECOND FORM. 'bulk': how many values and letters a reading holds, each counted each time it is reached (what is shared counts as often as it is met; a slice's spare places count too). A statement '..UptoSaid' is the law's where the arguments, and the package variables that the reading takes, are together of bulk at most 1048576: NARROWER than '..Said'. Prove '..Said' where nothing that the law and all that it calls make is longer than what came in: it says more and counts as full. Else prove '..UptoSaid'. A law counts once. -/
mutual
def uptoBulk {H : Type} : DataW H → Nat
  | .lit (.string bytes) => bytes.length + 1
  | .lit _ => 1
  | .nil => 1
  | .ptr d => uptoBulk d + 1
  | .slice elems spare => uptoBulkAll elems + uptoBulkAll spare + 1
  | .agg parts => uptoBulkAll parts + 1
  | .iface _ d => uptoBulk d + 1
  | .map entries => uptoBulkEntries entries + 1
  | .held _ => 1
def uptoBulkAll {H : Type} : List (DataW H) → Nat
  | [] => 0
  | d :: r => uptoBulk d + uptoBulkAll r
def uptoBulkEntries {H : Type} : List (Lit × DataW H) → Nat
  | [] => 0
  | x :: r => uptoBulkEntry x + uptoBulkEntries r
def uptoBulkEntry {H : Type} : Lit × DataW H → Nat
  | (.string bytes, d) => bytes.length + uptoBulk d + 1
  | (_, d) => uptoBulk d + 1
 end
def uptoSmall : (H : Type) → List (DataW H) → Bool := fun _ ds => decide (uptoBulkAll ds ≤ 1048576)
def OpenSpec.upto (s : _root_.Go.ChangeSpec) : _root_.Go.OpenSpec := { _root_.Go.OpenSpec.ofChange s with cond := some uptoSmall }

/-- 'n008_56.FnStripCommentsIdempotent', WHERE WHAT IT READS IS OF BULK AT MOST 1048576: true; the input reads as it did. -/
def fnStripCommentsIdempotentUptoRow : OpenClaim := { program := "ytofhjpmkpgbgiaa", sum := "df08edddba732ac59cb8d022d5db1d87938e46e10b33535a877218670c66bc1a", func := "github.com/google/go-jsonnet/n008_56.FnStripCommentsIdempotent", spec := "fnStripCommentsIdempotent", apart := false, narrowed := true }
def FnStripCommentsIdempotentUptoSaid : Prop := fnStripCommentsIdempotentUptoRow.holds Try.pinned (OpenSpec.upto fnStripCommentsIdempotentSpec)

/-- 'n008_56.FnStripAllButCommentsFileIdempotent', WHERE WHAT IT READS IS OF BULK AT MOST 1048576: true; the input reads as it did. -/
def fnStripAllButCommentsFileIdempotentUptoRow : OpenClaim := { program := "ytofhjpmkpgbgiaa", sum := "df08edddba732ac59cb8d022d5db1d87938e46e10b33535a877218670c66bc1a", func := "github.com/google/go-jsonnet/n008_56.FnStripAllButCommentsFileIdempotent", spec := "fnStripAllButCommentsFileIdempotent", unfollowed := true, recurses := true, apart := false, narrowed := true }
def FnStripAllButCommentsFileIdempotentUptoSaid : Prop := fnStripAllButCommentsFileIdempotentUptoRow.holds Try.pinned (OpenSpec.upto fnStripAllButCommentsFileIdempotentSpec)

/-- 'n008_56.FnStripAllButCommentsFodderAdditive', WHERE WHAT IT READS IS OF BULK AT MOST 1048576: true; the input reads as it did. -/
def fnStripAllButCommentsFodderAdditiveUptoRow : OpenClaim := { program := "ytofhjpmkpgbgiaa", sum := "df08edddba732ac59cb8d022d5db1d87938e46e10b33535a877218670c66bc1a", func := "github.com/google/go-jsonnet/n008_56.FnStripAllButCommentsFodderAdditive", spec := "fnStripAllButCommentsFodderAdditive", apart := false, narrowed := true }
def FnStripAllButCommentsFodderAdditiveUptoSaid : Prop := fnStripAllButCommentsFodderAdditiveUptoRow.holds Try.pinned (OpenSpec.upto fnStripAllButCommentsFodderAdditiveSpec)

/-- 'n008_56.FnStripAllButCommentsFodderExact', WHERE WHAT IT READS IS OF BULK AT MOST 1048576: true; the input reads as it did. -/
def fnStripAllButCommentsFodderExactUptoRow : OpenClaim := { program := "ytofhjpmkpgbgiaa", sum := "df08edddba732ac59cb8d022d5db1d87938e46e10b33535a877218670c66bc1a", func := "github.com/google/go-jsonnet/n008_56.FnStripAllButCommentsFodderExact", spec := "fnStripAllButCommentsFodderExact", apart := false, narrowed := true }
def FnStripAllButCommentsFodderExactUptoSaid : Prop := fnStripAllButCommentsFodderExactUptoRow.holds Try.pinned (OpenSpec.upto fnStripAllButCommentsFodderExactSpec)

/-- 'n008_56.FnStripCommentsKeepsExactlyLineEnds', WHERE WHAT IT READS IS OF BULK AT MOST 1048576: true; the input reads as it did. -/
def fnStripCommentsKeepsExactlyLineEndsUptoRow : OpenClaim := { program := "ytofhjpmkpgbgiaa", sum := "df08edddba732ac59cb8d022d5db1d87938e46e10b33535a877218670c66bc1a", func := "github.com/google/go-jsonnet/n008_56.FnStripCommentsKeepsExactlyLineEnds", spec := "fnStripCommentsKeepsExactlyLineEnds", apart := false, narrowed := true }
def FnStripCommentsKeepsExactlyLineEndsUptoSaid : Prop := fnStripCommentsKeepsExactlyLineEndsUptoRow.holds Try.pinned (OpenSpec.upto fnStripCommentsKeepsExactlyLineEndsSpec)

/-- 'n008_56.FnStripAllButCommentsFileExact', WHERE WHAT IT READS IS OF BULK AT MOST 1048576: true; the input reads as it did. -/
def fnStripAllButCommentsFileExactUptoRow : OpenClaim := { program := "ytofhjpmkpgbgiaa", sum := "df08edddba732ac59cb8d022d5db1d87938e46e10b33535a877218670c66bc1a", func := "github.com/google/go-jsonnet/n008_56.FnStripAllButCommentsFileExact", spec := "fnStripAllButCommentsFileExact", unfollowed := true, recurses := true, apart := false, narrowed := true }
def FnStripAllButCommentsFileExactUptoSaid : Prop := fnStripAllButCommentsFileExactUptoRow.holds Try.pinned (OpenSpec.upto fnStripAllButCommentsFileExactSpec)

end Rows
end Go.Proofs.Ytofhjpmkpgbgiaa
