/-
  No cell of these rows narrows 'for every input' (looked for: loops, veiled, ifaces, maps, wideKeys, modest, calm, conditions, laid).
  DERIVED. THE GIVEN ROWS OF THIS SEAT. 6 by the template 'for every input the law returns true; each argument reads behind the call as it read before'; 0 by the template 'total and deterministic' (their statements: YtlaghkppjdphnaaFmtTotals.lean).
  GIVEN WITH THE SEED: the statements are not yours to turn. If you find one false, say at which input.
  Laid BY PROGRAM, IN A SANDBOX (cutbox-rows.mjs): the forced cells as the released guide's own fill.sh prints them over the translation 9a39fc7c4248d49d… (all of the seat's roots in one cut). By AI agents, Wed Nov 11 2026. No macro, syntax, notation, axiom, sorry.
-/
import Derived.Test.YtlaghkppjdphnaaFmtChecked
import GoSem.Claim
import GoSem.ClaimJoined
import GoSem.ClaimMapViews
import Derived.JoinedTies
import Derived.KernelRfl
namespace Go.Proofs.YtlaghkppjdphnaaFmt
/- THE CELL 'sum', in the pinned program and in every row, IS THE sha256 OF THE DUMP (.gsa) THAT YtlaghkppjdphnaaFmtProg.lean LOADS. Nothing in Lean hashes anything: it is a label: what it is worth is what the hold of that sum in a sandbox is worth. -/
noncomputable def Tryf.pinned : Pinned := { name := "ytlaghkppjdphnaafmt", sum := "9a39fc7c4248d49d630c98e4b31d671e00aa48c72c6bf42044d47b2cdfe3a0e7", checked := Tryf.checked }
namespace Rows
def none {H : Type} : Left H := { results := [], args := [] }

/-- 'n008_67.FnParensExpandsAllOrNone': WHATEVER THE INPUT: true; the input reads as it did. -/
def fnParensExpandsAllOrNoneSpec : ChangeSpec := { name := "fnParensExpandsAllOrNone", fn := fun _ => fun
  | [d1, d2] => { results := [.lit (.bool true)], args := [d1, d2] }
  | _ => none }
def fnParensExpandsAllOrNoneRow : OpenClaim := { program := "ytlaghkppjdphnaafmt", sum := "9a39fc7c4248d49d630c98e4b31d671e00aa48c72c6bf42044d47b2cdfe3a0e7", func := "github.com/google/go-jsonnet/n008_67.FnParensExpandsAllOrNone", spec := "fnParensExpandsAllOrNone", stops := ["fmt.Sprintf"], inPlace := ["fmt.Sprintf"], unfollowed := true, recurses := true, apart := false }
/-- NO THEOREM (fmt's text is open here; it may be false): for the released tool's asking of the row's closed facts alone. THE STATEMENT IS 'FnParensExpandsAllOrNoneToldSaid' (YtlaghkppjdphnaaFmtCards.lean). -/
def FnParensExpandsAllOrNoneFormAsk : Prop := fnParensExpandsAllOrNoneRow.holds Tryf.pinned (OpenSpec.ofChange fnParensExpandsAllOrNoneSpec)

/-- ITS FALSE NEIGHBOUR: 'it returns false'. Refute it at one input. -/
def fnParensExpandsAllOrNoneWrong : ChangeSpec := { name := "fnParensExpandsAllOrNone", fn := fun _ => fun
  | [d1, d2] => { results := [.lit (.bool false)], args := [d1, d2] }
  | _ => none }
def FnParensExpandsAllOrNoneWrongFormAsk : Prop := fnParensExpandsAllOrNoneRow.holds Tryf.pinned (OpenSpec.ofChange fnParensExpandsAllOrNoneWrong)

/-- 'n008_67.FnParensIdempotent': WHATEVER THE INPUT: true; the input reads as it did. -/
def fnParensIdempotentSpec : ChangeSpec := { name := "fnParensIdempotent", fn := fun _ => fun
  | [d1, d2] => { results := [.lit (.bool true)], args := [d1, d2] }
  | _ => none }
def fnParensIdempotentRow : OpenClaim := { program := "ytlaghkppjdphnaafmt", sum := "9a39fc7c4248d49d630c98e4b31d671e00aa48c72c6bf42044d47b2cdfe3a0e7", func := "github.com/google/go-jsonnet/n008_67.FnParensIdempotent", spec := "fnParensIdempotent", stops := ["fmt.Sprintf"], inPlace := ["fmt.Sprintf"], unfollowed := true, recurses := true, apart := false }
/-- NO THEOREM (fmt's text is open here; it may be false): for the released tool's asking of the row's closed facts alone. THE STATEMENT IS 'FnParensIdempotentToldSaid' (YtlaghkppjdphnaaFmtCards.lean). -/
def FnParensIdempotentFormAsk : Prop := fnParensIdempotentRow.holds Tryf.pinned (OpenSpec.ofChange fnParensIdempotentSpec)

/-- ITS FALSE NEIGHBOUR: 'it returns false'. Refute it at one input. -/
def fnParensIdempotentWrong : ChangeSpec := { name := "fnParensIdempotent", fn := fun _ => fun
  | [d1, d2] => { results := [.lit (.bool false)], args := [d1, d2] }
  | _ => none }
def FnParensIdempotentWrongFormAsk : Prop := fnParensIdempotentRow.holds Tryf.pinned (OpenSpec.ofChange fnParensIdempotentWrong)

/-- 'n008_67.FnParametersExactSpec': WHATEVER THE INPUT: true; the input reads as it did. -/
def fnParametersExactSpecSpec : ChangeSpec := { name := "fnParametersExactSpec", fn := fun _ => fun
  | [d1, d2, d3] => { results := [.lit (.bool true)], args := [d1, d2, d3] }
  | _ => none }
def fnParametersExactSpecRow : OpenClaim := { program := "ytlaghkppjdphnaafmt", sum := "9a39fc7c4248d49d630c98e4b31d671e00aa48c72c6bf42044d47b2cdfe3a0e7", func := "github.com/google/go-jsonnet/n008_67.FnParametersExactSpec", spec := "fnParametersExactSpec", stops := ["fmt.Sprintf"], inPlace := ["fmt.Sprintf"], unfollowed := true, recurses := true, apart := false }
/-- NO THEOREM (fmt's text is open here; it may be false): for the released tool's asking of the row's closed facts alone. THE STATEMENT IS 'FnParametersExactSpecToldSaid' (YtlaghkppjdphnaaFmtCards.lean). -/
def FnParametersExactSpecFormAsk : Prop := fnParametersExactSpecRow.holds Tryf.pinned (OpenSpec.ofChange fnParametersExactSpecSpec)

/-- ITS FALSE NEIGHBOUR: 'it returns false'. Refute it at one input. -/
def fnParametersExactSpecWrong : ChangeSpec := { name := "fnParametersExactSpec", fn := fun _ => fun
  | [d1, d2, d3] => { results := [.lit (.bool false)], args := [d1, d2, d3] }
  | _ => none }
def FnParametersExactSpecWrongFormAsk : Prop := fnParametersExactSpecRow.holds Tryf.pinned (OpenSpec.ofChange fnParametersExactSpecWrong)

/-- 'n008_67.FnParametersNormalFormIdempotent': WHATEVER THE INPUT: true; the input reads as it did. -/
def fnParametersNormalFormIdempotentSpec : ChangeSpec := { name := "fnParametersNormalFormIdempotent", fn := fun _ => fun
  | [d1, d2, d3] => { results := [.lit (.bool true)], args := [d1, d2, d3] }
  | _ => none }
def fnParametersNormalFormIdempotentRow : OpenClaim := { program := "ytlaghkppjdphnaafmt", sum := "9a39fc7c4248d49d630c98e4b31d671e00aa48c72c6bf42044d47b2cdfe3a0e7", func := "github.com/google/go-jsonnet/n008_67.FnParametersNormalFormIdempotent", spec := "fnParametersNormalFormIdempotent", stops := ["fmt.Sprintf"], inPlace := ["fmt.Sprintf"], unfollowed := true, recurses := true, apart := false }
/-- NO THEOREM (fmt's text is open here; it may be false): for the released tool's asking of the row's closed facts alone. THE STATEMENT IS 'FnParametersNormalFormIdempotentToldSaid' (YtlaghkppjdphnaaFmtCards.lean). -/
def FnParametersNormalFormIdempotentFormAsk : Prop := fnParametersNormalFormIdempotentRow.holds Tryf.pinned (OpenSpec.ofChange fnParametersNormalFormIdempotentSpec)

/-- ITS FALSE NEIGHBOUR: 'it returns false'. Refute it at one input. -/
def fnParametersNormalFormIdempotentWrong : ChangeSpec := { name := "fnParametersNormalFormIdempotent", fn := fun _ => fun
  | [d1, d2, d3] => { results := [.lit (.bool false)], args := [d1, d2, d3] }
  | _ => none }
def FnParametersNormalFormIdempotentWrongFormAsk : Prop := fnParametersNormalFormIdempotentRow.holds Tryf.pinned (OpenSpec.ofChange fnParametersNormalFormIdempotentWrong)

/-- 'n008_67.FnArgumentsAgreesWithParameters': WHATEVER THE INPUT: true; the input reads as it did. -/
def fnArgumentsAgreesWithParametersSpec : ChangeSpec := { name := "fnArgumentsAgreesWithParameters", fn := fun _ => fun
  | [d1, d2, d3, d4] => { results := [.lit (.bool true)], args := [d1, d2, d3, d4] }
  | _ => none }
def fnArgumentsAgreesWithParametersRow : OpenClaim := { program := "ytlaghkppjdphnaafmt", sum := "9a39fc7c4248d49d630c98e4b31d671e00aa48c72c6bf42044d47b2cdfe3a0e7", func := "github.com/google/go-jsonnet/n008_67.FnArgumentsAgreesWithParameters", spec := "fnArgumentsAgreesWithParameters", stops := ["fmt.Sprintf"], inPlace := ["fmt.Sprintf"], unfollowed := true, recurses := true, apart := false }
/-- NO THEOREM (fmt's text is open here; it may be false): for the released tool's asking of the row's closed facts alone. THE STATEMENT IS 'FnArgumentsAgreesWithParametersToldSaid' (YtlaghkppjdphnaaFmtCards.lean). -/
def FnArgumentsAgreesWithParametersFormAsk : Prop := fnArgumentsAgreesWithParametersRow.holds Tryf.pinned (OpenSpec.ofChange fnArgumentsAgreesWithParametersSpec)

/-- ITS FALSE NEIGHBOUR: 'it returns false'. Refute it at one input. -/
def fnArgumentsAgreesWithParametersWrong : ChangeSpec := { name := "fnArgumentsAgreesWithParameters", fn := fun _ => fun
  | [d1, d2, d3, d4] => { results := [.lit (.bool false)], args := [d1, d2, d3, d4] }
  | _ => none }
def FnArgumentsAgreesWithParametersWrongFormAsk : Prop := fnArgumentsAgreesWithParametersRow.holds Tryf.pinned (OpenSpec.ofChange fnArgumentsAgreesWithParametersWrong)

/-- 'n008_67.FnArgumentsExactSpec': WHATEVER THE INPUT: true; the input reads as it did. -/
def fnArgumentsExactSpecSpec : ChangeSpec := { name := "fnArgumentsExactSpec", fn := fun _ => fun
  | [d1, d2, d3, d4] => { results := [.lit (.bool true)], args := [d1, d2, d3, d4] }
  | _ => none }
def fnArgumentsExactSpecRow : OpenClaim := { program := "ytlaghkppjdphnaafmt", sum := "9a39fc7c4248d49d630c98e4b31d671e00aa48c72c6bf42044d47b2cdfe3a0e7", func := "github.com/google/go-jsonnet/n008_67.FnArgumentsExactSpec", spec := "fnArgumentsExactSpec", stops := ["fmt.Sprintf"], inPlace := ["fmt.Sprintf"], unfollowed := true, recurses := true, apart := false }
/-- NO THEOREM (fmt's text is open here; it may be false): for the released tool's asking of the row's closed facts alone. THE STATEMENT IS 'FnArgumentsExactSpecToldSaid' (YtlaghkppjdphnaaFmtCards.lean). -/
def FnArgumentsExactSpecFormAsk : Prop := fnArgumentsExactSpecRow.holds Tryf.pinned (OpenSpec.ofChange fnArgumentsExactSpecSpec)

/-- ITS FALSE NEIGHBOUR: 'it returns false'. Refute it at one input. -/
def fnArgumentsExactSpecWrong : ChangeSpec := { name := "fnArgumentsExactSpec", fn := fun _ => fun
  | [d1, d2, d3, d4] => { results := [.lit (.bool false)], args := [d1, d2, d3, d4] }
  | _ => none }
def FnArgumentsExactSpecWrongFormAsk : Prop := fnArgumentsExactSpecRow.holds Tryf.pinned (OpenSpec.ofChange fnArgumentsExactSpecWrong)

end Rows
end Go.Proofs.YtlaghkppjdphnaaFmt
