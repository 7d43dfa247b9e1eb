/-
  DERIVED. GIVEN WITH THE SEED: THE CARDS: each row of YtgelephafhdkmaaFmtRows.lean that lists a variable, with what it lists TIED to the program's text (the seventh form; the later family's looks); each row that meets fmt, with fmt's text TOLD by the authors' own Lean function (tested against real Go, not proved from fmt's source: count such statements apart). THE CARD IS WHAT COUNTS. Prove the row's statement (the work); the ties are given (YtgelephafhdkmaaFmtTie.lean); close each card by the builder's one call (the guide's Derived/Test/ToyasCard.lean, 'card_holds'). Laid BY PROGRAM, IN A SANDBOX (cutbox-door.mjs). By AI agents, Wed Nov 11 2026. No macro, syntax, notation, axiom, sorry.
-/
import Derived.Test.YtgelephafhdkmaaFmtRows
import GoSem.ClaimSeven
namespace Go.Proofs.YtgelephafhdkmaaFmt
namespace Rows

/-- THE TOLD CARD OF 'n008_144.FnLocationStringDecimal'. -/
def fnLocationStringDecimalCard : Claim7 := { stood := { row := fnLocationStringDecimalRow, standIns := [], harness := (true, "5ebfe3e76c0be48a5ea1f85283f704f076731ac3a0a42a67b3639813cba59ecc"), looks := false }, told := true, goes := false }
def FnLocationStringDecimalToldSaid : Prop := Claim7.holds Tryf.pinned (.plain (OpenSpec.ofChange fnLocationStringDecimalSpec)) fnLocationStringDecimalCard
/-- ITS FALSE NEIGHBOUR. Refute it at one input. -/
def FnLocationStringDecimalToldWrongFalsely : Prop := Claim7.holds Tryf.pinned (.plain (OpenSpec.ofChange fnLocationStringDecimalWrong)) fnLocationStringDecimalCard

/-- THE TOLD CARD OF 'n008_144.FnLocationStringRoundTrip'. -/
def fnLocationStringRoundTripCard : Claim7 := { stood := { row := fnLocationStringRoundTripRow, standIns := [], harness := (true, "5ebfe3e76c0be48a5ea1f85283f704f076731ac3a0a42a67b3639813cba59ecc"), looks := false }, told := true, goes := false }
def FnLocationStringRoundTripToldSaid : Prop := Claim7.holds Tryf.pinned (.plain (OpenSpec.ofChange fnLocationStringRoundTripSpec)) fnLocationStringRoundTripCard
/-- ITS FALSE NEIGHBOUR. Refute it at one input. -/
def FnLocationStringRoundTripToldWrongFalsely : Prop := Claim7.holds Tryf.pinned (.plain (OpenSpec.ofChange fnLocationStringRoundTripWrong)) fnLocationStringRoundTripCard
end Rows
end Go.Proofs.YtgelephafhdkmaaFmt
