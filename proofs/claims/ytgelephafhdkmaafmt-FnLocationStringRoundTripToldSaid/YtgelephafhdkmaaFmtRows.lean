/-
  No cell of these rows narrows 'for every input' (looked for: loops, veiled, ifaces, maps, wideKeys, modest, calm, conditions, laid).
  DERIVED. THE GIVEN ROWS OF THIS SEAT. 2 by the template 'for every input the law returns true; each argument reads behind the call as it read before'; 0 by the template 'total and deterministic' (their statements: YtgelephafhdkmaaFmtTotals.lean).
  GIVEN WITH THE SEED: the statements are not yours to turn. If you find one false, say at which input.
  Laid BY PROGRAM, IN A SANDBOX (cutbox-rows.mjs): the forced cells as the released guide's own fill.sh prints them over the translation b53e48dba32f2c4e… (all of the seat's roots in one cut). By AI agents, Wed Nov 11 2026. No macro, syntax, notation, axiom, sorry.
-/
import Derived.Test.YtgelephafhdkmaaFmtChecked
import GoSem.Claim
import GoSem.ClaimJoined
import GoSem.ClaimMapViews
import Derived.JoinedTies
import Derived.KernelRfl
namespace Go.Proofs.YtgelephafhdkmaaFmt
/- THE CELL 'sum', in the pinned program and in every row, IS THE sha256 OF THE DUMP (.gsa) THAT YtgelephafhdkmaaFmtProg.lean LOADS. Nothing in Lean hashes anything: it is a label: what it is worth is what the hold of that sum in a sandbox is worth. -/
noncomputable def Tryf.pinned : Pinned := { name := "ytgelephafhdkmaafmt", sum := "b53e48dba32f2c4ef5bc5d67dcff8e5b36d9d97040debf5709c4923c449ac66f", checked := Tryf.checked }
namespace Rows
def none {H : Type} : Left H := { results := [], args := [] }

/-- 'n008_144.FnLocationStringDecimal': WHATEVER THE INPUT: true; the input reads as it did. -/
def fnLocationStringDecimalSpec : ChangeSpec := { name := "fnLocationStringDecimal", fn := fun _ => fun
  | [d1, d2] => { results := [.lit (.bool true)], args := [d1, d2] }
  | _ => none }
def fnLocationStringDecimalRow : OpenClaim := { program := "ytgelephafhdkmaafmt", sum := "b53e48dba32f2c4ef5bc5d67dcff8e5b36d9d97040debf5709c4923c449ac66f", func := "github.com/google/go-jsonnet/n008_144.FnLocationStringDecimal", spec := "fnLocationStringDecimal", stops := ["fmt.Sprintf"], inPlace := ["fmt.Sprintf"], apart := false }
/-- NO THEOREM (fmt's text is open here; it may be false): for the released tool's asking of the row's closed facts alone. THE STATEMENT IS 'FnLocationStringDecimalToldSaid' (YtgelephafhdkmaaFmtCards.lean). -/
def FnLocationStringDecimalFormAsk : Prop := fnLocationStringDecimalRow.holds Tryf.pinned (OpenSpec.ofChange fnLocationStringDecimalSpec)

/-- ITS FALSE NEIGHBOUR: 'it returns false'. Refute it at one input. -/
def fnLocationStringDecimalWrong : ChangeSpec := { name := "fnLocationStringDecimal", fn := fun _ => fun
  | [d1, d2] => { results := [.lit (.bool false)], args := [d1, d2] }
  | _ => none }
def FnLocationStringDecimalWrongFormAsk : Prop := fnLocationStringDecimalRow.holds Tryf.pinned (OpenSpec.ofChange fnLocationStringDecimalWrong)

/-- 'n008_144.FnLocationStringRoundTrip': WHATEVER THE INPUT: true; the input reads as it did. -/
def fnLocationStringRoundTripSpec : ChangeSpec := { name := "fnLocationStringRoundTrip", fn := fun _ => fun
  | [d1, d2] => { results := [.lit (.bool true)], args := [d1, d2] }
  | _ => none }
def fnLocationStringRoundTripRow : OpenClaim := { program := "ytgelephafhdkmaafmt", sum := "b53e48dba32f2c4ef5bc5d67dcff8e5b36d9d97040debf5709c4923c449ac66f", func := "github.com/google/go-jsonnet/n008_144.FnLocationStringRoundTrip", spec := "fnLocationStringRoundTrip", stops := ["fmt.Sprintf"], inPlace := ["fmt.Sprintf"], apart := false }
/-- NO THEOREM (fmt's text is open here; it may be false): for the released tool's asking of the row's closed facts alone. THE STATEMENT IS 'FnLocationStringRoundTripToldSaid' (YtgelephafhdkmaaFmtCards.lean). -/
def FnLocationStringRoundTripFormAsk : Prop := fnLocationStringRoundTripRow.holds Tryf.pinned (OpenSpec.ofChange fnLocationStringRoundTripSpec)

/-- ITS FALSE NEIGHBOUR: 'it returns false'. Refute it at one input. -/
def fnLocationStringRoundTripWrong : ChangeSpec := { name := "fnLocationStringRoundTrip", fn := fun _ => fun
  | [d1, d2] => { results := [.lit (.bool false)], args := [d1, d2] }
  | _ => none }
def FnLocationStringRoundTripWrongFormAsk : Prop := fnLocationStringRoundTripRow.holds Tryf.pinned (OpenSpec.ofChange fnLocationStringRoundTripWrong)

end Rows
end Go.Proofs.YtgelephafhdkmaaFmt
