/-
  DERIVED. GIVEN WITH THE SEED: THE CARDS: each row of Qxb6604384aFmtRows.lean that lists a variable, with what it lists TIED to the program's text (the seventh form; the later family's looks); each row that meets fmt, with fmt's text TOLD by the authors' own Lean function (tested against real Go, not proved from fmt's source: count such statements apart). THE CARD IS WHAT COUNTS. Prove the row's statement (the work); the ties are given (Qxb6604384aFmtTie.lean); close each card by the builder's one call (the guide's Derived/Test/ToyasCard.lean, 'card_holds'). Laid BY PROGRAM, IN A SANDBOX (cutbox-door.mjs). By AI agents, Wed Nov 11 2026. No macro, syntax, notation, axiom, sorry.
-/
import Derived.Test.Qxb6604384aFmtRows
import GoSem.ClaimSeven
namespace Go.Proofs.Qxb6604384aFmt
namespace Rows

/-- THE TOLD CARD OF 'zzlaws_root_b1.FnListingErrorPlacePrecedence'. -/
def fnListingErrorPlacePrecedenceCard : Claim7 := { stood := { row := fnListingErrorPlacePrecedenceRow, standIns := [], harness := (true, "ea42f9b130b0b0f17dd3dc01574bbcd3e7afb64f5876ef8e7c4fc53de1ab542a"), looks := true }, told := true, goes := false }
def FnListingErrorPlacePrecedenceToldSaid : Prop := Claim7.holds Tryf.pinned (.plain (OpenSpec.ofChange fnListingErrorPlacePrecedenceSpec)) fnListingErrorPlacePrecedenceCard
/-- ITS FALSE NEIGHBOUR. Refute it at one input. -/
def FnListingErrorPlacePrecedenceToldWrongFalsely : Prop := Claim7.holds Tryf.pinned (.plain (OpenSpec.ofChange fnListingErrorPlacePrecedenceWrong)) fnListingErrorPlacePrecedenceCard

/-- THE TOLD AND TIED CARD OF 'zzlaws_root_b1.FnDigitsExact'. -/
def fnDigitsExactCard : Claim7 := { stood := { row := fnDigitsExactRow, standIns := [], harness := (true, "ea42f9b130b0b0f17dd3dc01574bbcd3e7afb64f5876ef8e7c4fc53de1ab542a"), looks := true }, told := true, laidByText := true, laidKinds := [.data, .sentinel, .pinned], laidTests := true, laidLooks := .later, goes := false }
def FnDigitsExactToldSaid : Prop := Claim7.holds Tryf.pinned (.plain (OpenSpec.ofChange fnDigitsExactSpec)) fnDigitsExactCard
/-- ITS FALSE NEIGHBOUR. Refute it at one input. -/
def FnDigitsExactToldWrongFalsely : Prop := Claim7.holds Tryf.pinned (.plain (OpenSpec.ofChange fnDigitsExactWrong)) fnDigitsExactCard

/-- THE TOLD AND TIED CARD OF 'zzlaws_root_b1.FnDigitsStopsAtNonDigit'. -/
def fnDigitsStopsAtNonDigitCard : Claim7 := { stood := { row := fnDigitsStopsAtNonDigitRow, standIns := [], harness := (true, "ea42f9b130b0b0f17dd3dc01574bbcd3e7afb64f5876ef8e7c4fc53de1ab542a"), looks := true }, told := true, laidByText := true, laidKinds := [.data, .sentinel, .pinned], laidTests := true, laidLooks := .later, goes := false }
def FnDigitsStopsAtNonDigitToldSaid : Prop := Claim7.holds Tryf.pinned (.plain (OpenSpec.ofChange fnDigitsStopsAtNonDigitSpec)) fnDigitsStopsAtNonDigitCard
/-- ITS FALSE NEIGHBOUR. Refute it at one input. -/
def FnDigitsStopsAtNonDigitToldWrongFalsely : Prop := Claim7.holds Tryf.pinned (.plain (OpenSpec.ofChange fnDigitsStopsAtNonDigitWrong)) fnDigitsStopsAtNonDigitCard
end Rows
end Go.Proofs.Qxb6604384aFmt
