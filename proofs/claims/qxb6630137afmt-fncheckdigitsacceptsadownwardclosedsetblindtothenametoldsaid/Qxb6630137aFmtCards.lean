/-
  DERIVED. GIVEN WITH THE SEED: THE CARDS: each row of Qxb6630137aFmtRows.lean that lists a variable, with what it lists TIED to the program's text (the seventh form; the later family's looks); each row that meets fmt, with fmt's text TOLD by the authors' own Lean function (tested against real Go, not proved from fmt's source: count such statements apart). THE CARD IS WHAT COUNTS. Prove the row's statement (the work); the ties are given (Qxb6630137aFmtTie.lean); close each card by the builder's one call (the guide's Derived/Test/ToyasCard.lean, 'card_holds'). Laid BY PROGRAM, IN A SANDBOX (cutbox-door.mjs). By AI agents, Wed Nov 11 2026. No macro, syntax, notation, axiom, sorry.
-/
import Derived.Test.Qxb6630137aFmtRows
import GoSem.ClaimSeven
namespace Go.Proofs.Qxb6630137aFmt
namespace Rows

/-- THE TOLD CARD OF 'zzlaws_catalogue_b1.FnCheckDigitsRefusesExactlyBeyondTheirPlaces'. -/
def fnCheckDigitsRefusesExactlyBeyondTheirPlacesCard : Claim7 := { stood := { row := fnCheckDigitsRefusesExactlyBeyondTheirPlacesRow, standIns := [], harness := (true, "9a4a7bcbb87d95272a0fdf3de4836f1edb8a69651cca27a150ed6d0744e85f74"), looks := false }, told := true, goes := false }
def FnCheckDigitsRefusesExactlyBeyondTheirPlacesToldSaid : Prop := Claim7.holds Tryf.pinned (.plain (OpenSpec.ofChange fnCheckDigitsRefusesExactlyBeyondTheirPlacesSpec)) fnCheckDigitsRefusesExactlyBeyondTheirPlacesCard
/-- ITS FALSE NEIGHBOUR. Refute it at one input. -/
def FnCheckDigitsRefusesExactlyBeyondTheirPlacesToldWrongFalsely : Prop := Claim7.holds Tryf.pinned (.plain (OpenSpec.ofChange fnCheckDigitsRefusesExactlyBeyondTheirPlacesWrong)) fnCheckDigitsRefusesExactlyBeyondTheirPlacesCard

/-- THE TOLD CARD OF 'zzlaws_catalogue_b1.FnCheckDigitsAcceptsADownwardClosedSetBlindToTheName'. -/
def fnCheckDigitsAcceptsADownwardClosedSetBlindToTheNameCard : Claim7 := { stood := { row := fnCheckDigitsAcceptsADownwardClosedSetBlindToTheNameRow, standIns := [], harness := (true, "9a4a7bcbb87d95272a0fdf3de4836f1edb8a69651cca27a150ed6d0744e85f74"), looks := false }, told := true, goes := false }
def FnCheckDigitsAcceptsADownwardClosedSetBlindToTheNameToldSaid : Prop := Claim7.holds Tryf.pinned (.plain (OpenSpec.ofChange fnCheckDigitsAcceptsADownwardClosedSetBlindToTheNameSpec)) fnCheckDigitsAcceptsADownwardClosedSetBlindToTheNameCard
/-- ITS FALSE NEIGHBOUR. Refute it at one input. -/
def FnCheckDigitsAcceptsADownwardClosedSetBlindToTheNameToldWrongFalsely : Prop := Claim7.holds Tryf.pinned (.plain (OpenSpec.ofChange fnCheckDigitsAcceptsADownwardClosedSetBlindToTheNameWrong)) fnCheckDigitsAcceptsADownwardClosedSetBlindToTheNameCard
end Rows
end Go.Proofs.Qxb6630137aFmt
