/-
  DERIVED. GIVEN WITH THE SEED: THE CARDS: each row of YtlaghkppjdphnaaFmtRows.lean that lists a variable, with what it lists TIED to the program's text (the seventh form; the later family's looks); each row that meets fmt, with fmt's text TOLD by the authors' own Lean function (tested against real Go, not proved from fmt's source: count such statements apart). THE CARD IS WHAT COUNTS. Prove the row's statement (the work); the ties are given (YtlaghkppjdphnaaFmtTie.lean); close each card by the builder's one call (the guide's Derived/Test/ToyasCard.lean, 'card_holds'). Laid BY PROGRAM, IN A SANDBOX (cutbox-door.mjs). By AI agents, Wed Nov 11 2026. No macro, syntax, notation, axiom, sorry.
-/
import Derived.Test.YtlaghkppjdphnaaFmtRows
import GoSem.ClaimSeven
namespace Go.Proofs.YtlaghkppjdphnaaFmt
namespace Rows

/-- THE TOLD CARD OF 'n008_67.FnParensExpandsAllOrNone'. -/
def fnParensExpandsAllOrNoneCard : Claim7 := { stood := { row := fnParensExpandsAllOrNoneRow, standIns := [], harness := (true, "1d475797d8ba3790ed5809c85939f54321edc88960c04387a413fdd3f7a55287"), looks := true }, told := true, goes := false }
def FnParensExpandsAllOrNoneToldSaid : Prop := Claim7.holds Tryf.pinned (.plain (OpenSpec.ofChange fnParensExpandsAllOrNoneSpec)) fnParensExpandsAllOrNoneCard
/-- ITS FALSE NEIGHBOUR. Refute it at one input. -/
def FnParensExpandsAllOrNoneToldWrongFalsely : Prop := Claim7.holds Tryf.pinned (.plain (OpenSpec.ofChange fnParensExpandsAllOrNoneWrong)) fnParensExpandsAllOrNoneCard

/-- THE TOLD CARD OF 'n008_67.FnParensIdempotent'. -/
def fnParensIdempotentCard : Claim7 := { stood := { row := fnParensIdempotentRow, standIns := [], harness := (true, "1d475797d8ba3790ed5809c85939f54321edc88960c04387a413fdd3f7a55287"), looks := true }, told := true, goes := false }
def FnParensIdempotentToldSaid : Prop := Claim7.holds Tryf.pinned (.plain (OpenSpec.ofChange fnParensIdempotentSpec)) fnParensIdempotentCard
/-- ITS FALSE NEIGHBOUR. Refute it at one input. -/
def FnParensIdempotentToldWrongFalsely : Prop := Claim7.holds Tryf.pinned (.plain (OpenSpec.ofChange fnParensIdempotentWrong)) fnParensIdempotentCard

/-- THE TOLD CARD OF 'n008_67.FnParametersExactSpec'. -/
def fnParametersExactSpecCard : Claim7 := { stood := { row := fnParametersExactSpecRow, standIns := [], harness := (true, "1d475797d8ba3790ed5809c85939f54321edc88960c04387a413fdd3f7a55287"), looks := true }, told := true, goes := false }
def FnParametersExactSpecToldSaid : Prop := Claim7.holds Tryf.pinned (.plain (OpenSpec.ofChange fnParametersExactSpecSpec)) fnParametersExactSpecCard
/-- ITS FALSE NEIGHBOUR. Refute it at one input. -/
def FnParametersExactSpecToldWrongFalsely : Prop := Claim7.holds Tryf.pinned (.plain (OpenSpec.ofChange fnParametersExactSpecWrong)) fnParametersExactSpecCard

/-- THE TOLD CARD OF 'n008_67.FnParametersNormalFormIdempotent'. -/
def fnParametersNormalFormIdempotentCard : Claim7 := { stood := { row := fnParametersNormalFormIdempotentRow, standIns := [], harness := (true, "1d475797d8ba3790ed5809c85939f54321edc88960c04387a413fdd3f7a55287"), looks := true }, told := true, goes := false }
def FnParametersNormalFormIdempotentToldSaid : Prop := Claim7.holds Tryf.pinned (.plain (OpenSpec.ofChange fnParametersNormalFormIdempotentSpec)) fnParametersNormalFormIdempotentCard
/-- ITS FALSE NEIGHBOUR. Refute it at one input. -/
def FnParametersNormalFormIdempotentToldWrongFalsely : Prop := Claim7.holds Tryf.pinned (.plain (OpenSpec.ofChange fnParametersNormalFormIdempotentWrong)) fnParametersNormalFormIdempotentCard

/-- THE TOLD CARD OF 'n008_67.FnArgumentsAgreesWithParameters'. -/
def fnArgumentsAgreesWithParametersCard : Claim7 := { stood := { row := fnArgumentsAgreesWithParametersRow, standIns := [], harness := (true, "1d475797d8ba3790ed5809c85939f54321edc88960c04387a413fdd3f7a55287"), looks := true }, told := true, goes := false }
def FnArgumentsAgreesWithParametersToldSaid : Prop := Claim7.holds Tryf.pinned (.plain (OpenSpec.ofChange fnArgumentsAgreesWithParametersSpec)) fnArgumentsAgreesWithParametersCard
/-- ITS FALSE NEIGHBOUR. Refute it at one input. -/
def FnArgumentsAgreesWithParametersToldWrongFalsely : Prop := Claim7.holds Tryf.pinned (.plain (OpenSpec.ofChange fnArgumentsAgreesWithParametersWrong)) fnArgumentsAgreesWithParametersCard

/-- THE TOLD CARD OF 'n008_67.FnArgumentsExactSpec'. -/
def fnArgumentsExactSpecCard : Claim7 := { stood := { row := fnArgumentsExactSpecRow, standIns := [], harness := (true, "1d475797d8ba3790ed5809c85939f54321edc88960c04387a413fdd3f7a55287"), looks := true }, told := true, goes := false }
def FnArgumentsExactSpecToldSaid : Prop := Claim7.holds Tryf.pinned (.plain (OpenSpec.ofChange fnArgumentsExactSpecSpec)) fnArgumentsExactSpecCard
/-- ITS FALSE NEIGHBOUR. Refute it at one input. -/
def FnArgumentsExactSpecToldWrongFalsely : Prop := Claim7.holds Tryf.pinned (.plain (OpenSpec.ofChange fnArgumentsExactSpecWrong)) fnArgumentsExactSpecCard
end Rows
end Go.Proofs.YtlaghkppjdphnaaFmt
