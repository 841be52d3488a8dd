/-
  DERIVED. GIVEN WITH THE SEED: THE CARDS: each row of Qxb6630151aFmtRows.lean that lists a variable, with what it lists TIED to the program's text (the seventh form; the later family's looks); each row that meets fmt, with fmt's text TOLD by the authors' own Lean function (tested against real Go, not proved from fmt's source: count such statements apart). THE CARD IS WHAT COUNTS. Prove the row's statement (the work); the ties are given (Qxb6630151aFmtTie.lean); close each card by the builder's one call (the guide's Derived/Test/ToyasCard.lean, 'card_holds'). Laid BY PROGRAM, IN A SANDBOX (cutbox-door.mjs). By AI agents, Wed Nov 11 2026. No macro, syntax, notation, axiom, sorry.
-/
import Derived.Test.Qxb6630151aFmtRows
import GoSem.ClaimSeven
namespace Go.Proofs.Qxb6630151aFmt
namespace Rows

/-- THE TOLD CARD OF 'zzlaws_internal_input_b1.FnParseFixedMatchesGrammarModel'. -/
def fnParseFixedMatchesGrammarModelCard : Claim7 := { stood := { row := fnParseFixedMatchesGrammarModelRow, standIns := [], harness := (true, "33b1bbd12895f201b5518c319fcee9ff943a6fef65a7dc8369d44582d1bb370a"), looks := false }, told := true, goes := false }
def FnParseFixedMatchesGrammarModelToldSaid : Prop := Claim7.holds Tryf.pinned (.plain (OpenSpec.ofChange fnParseFixedMatchesGrammarModelSpec)) fnParseFixedMatchesGrammarModelCard
/-- ITS FALSE NEIGHBOUR. Refute it at one input. -/
def FnParseFixedMatchesGrammarModelToldWrongFalsely : Prop := Claim7.holds Tryf.pinned (.plain (OpenSpec.ofChange fnParseFixedMatchesGrammarModelWrong)) fnParseFixedMatchesGrammarModelCard

/-- THE TOLD CARD OF 'zzlaws_internal_input_b1.FnParseFixedPointShiftKeepsCoefficient'. -/
def fnParseFixedPointShiftKeepsCoefficientCard : Claim7 := { stood := { row := fnParseFixedPointShiftKeepsCoefficientRow, standIns := [], harness := (true, "33b1bbd12895f201b5518c319fcee9ff943a6fef65a7dc8369d44582d1bb370a"), looks := false }, told := true, goes := false }
def FnParseFixedPointShiftKeepsCoefficientToldSaid : Prop := Claim7.holds Tryf.pinned (.plain (OpenSpec.ofChange fnParseFixedPointShiftKeepsCoefficientSpec)) fnParseFixedPointShiftKeepsCoefficientCard
/-- ITS FALSE NEIGHBOUR. Refute it at one input. -/
def FnParseFixedPointShiftKeepsCoefficientToldWrongFalsely : Prop := Claim7.holds Tryf.pinned (.plain (OpenSpec.ofChange fnParseFixedPointShiftKeepsCoefficientWrong)) fnParseFixedPointShiftKeepsCoefficientCard
end Rows
end Go.Proofs.Qxb6630151aFmt
