/-
  No cell of these rows narrows 'for every input' (looked for: loops, veiled, ifaces, maps, wideKeys, modest, calm, conditions, laid).
  DERIVED. THE GIVEN ROWS OF THIS SEAT. 2 by the template 'for every input the law returns true; each argument reads behind the call as it read before'; 0 by the template 'total and deterministic' (their statements: Qxb6630151aFmtTotals.lean).
  GIVEN WITH THE SEED: the statements are not yours to turn. If you find one false, say at which input.
  Laid BY PROGRAM, IN A SANDBOX (cutbox-rows.mjs): the forced cells as the released guide's own fill.sh prints them over the translation ed35a5860e758035… (all of the seat's roots in one cut). By AI agents, Wed Nov 11 2026. No macro, syntax, notation, axiom, sorry.
-/
import Derived.Test.Qxb6630151aFmtChecked
import GoSem.Claim
import GoSem.ClaimJoined
import GoSem.ClaimMapViews
import Derived.JoinedTies
import Derived.KernelRfl
namespace Go.Proofs.Qxb6630151aFmt
/- THE CELL 'sum', in the pinned program and in every row, IS THE sha256 OF THE DUMP (.gsa) THAT Qxb6630151aFmtProg.lean LOADS. Nothing in Lean hashes anything: it is a label: what it is worth is what the hold of that sum in a sandbox is worth. -/
noncomputable def Tryf.pinned : Pinned := { name := "qxb6630151afmt", sum := "ed35a5860e7580354afe210ae92403051f8ad2f3df7274e61976488bb23cb15c", checked := Tryf.checked }
namespace Rows
def none {H : Type} : Left H := { results := [], args := [] }

/-- 'zzlaws_internal_input_b1.FnParseFixedMatchesGrammarModel': WHATEVER THE INPUT: true; the input reads as it did. -/
def fnParseFixedMatchesGrammarModelSpec : ChangeSpec := { name := "fnParseFixedMatchesGrammarModel", fn := fun _ => fun
  | [d] => { results := [.lit (.bool true)], args := [d] }
  | _ => none }
def fnParseFixedMatchesGrammarModelRow : OpenClaim := { program := "qxb6630151afmt", sum := "ed35a5860e7580354afe210ae92403051f8ad2f3df7274e61976488bb23cb15c", func := "example.com/custody-atlas/custody-atlas/zzlaws_internal_input_b1.FnParseFixedMatchesGrammarModel", spec := "fnParseFixedMatchesGrammarModel", stops := ["fmt.errorf"], inPlace := ["fmt.errorf"], apart := false }
/-- NO THEOREM (fmt's text is open here; it may be false): for the released tool's asking of the row's closed facts alone. THE STATEMENT IS 'FnParseFixedMatchesGrammarModelToldSaid' (Qxb6630151aFmtCards.lean). -/
def FnParseFixedMatchesGrammarModelFormAsk : Prop := fnParseFixedMatchesGrammarModelRow.holds Tryf.pinned (OpenSpec.ofChange fnParseFixedMatchesGrammarModelSpec)

/-- ITS FALSE NEIGHBOUR: 'it returns false'. Refute it at one input. -/
def fnParseFixedMatchesGrammarModelWrong : ChangeSpec := { name := "fnParseFixedMatchesGrammarModel", fn := fun _ => fun
  | [d] => { results := [.lit (.bool false)], args := [d] }
  | _ => none }
def FnParseFixedMatchesGrammarModelWrongFormAsk : Prop := fnParseFixedMatchesGrammarModelRow.holds Tryf.pinned (OpenSpec.ofChange fnParseFixedMatchesGrammarModelWrong)

/-- 'zzlaws_internal_input_b1.FnParseFixedPointShiftKeepsCoefficient': WHATEVER THE INPUT: true; the input reads as it did. -/
def fnParseFixedPointShiftKeepsCoefficientSpec : ChangeSpec := { name := "fnParseFixedPointShiftKeepsCoefficient", fn := fun _ => fun
  | [d1, d2] => { results := [.lit (.bool true)], args := [d1, d2] }
  | _ => none }
def fnParseFixedPointShiftKeepsCoefficientRow : OpenClaim := { program := "qxb6630151afmt", sum := "ed35a5860e7580354afe210ae92403051f8ad2f3df7274e61976488bb23cb15c", func := "example.com/custody-atlas/custody-atlas/zzlaws_internal_input_b1.FnParseFixedPointShiftKeepsCoefficient", spec := "fnParseFixedPointShiftKeepsCoefficient", stops := ["fmt.errorf"], inPlace := ["fmt.errorf"], apart := false }
/-- NO THEOREM (fmt's text is open here; it may be false): for the released tool's asking of the row's closed facts alone. THE STATEMENT IS 'FnParseFixedPointShiftKeepsCoefficientToldSaid' (Qxb6630151aFmtCards.lean). -/
def FnParseFixedPointShiftKeepsCoefficientFormAsk : Prop := fnParseFixedPointShiftKeepsCoefficientRow.holds Tryf.pinned (OpenSpec.ofChange fnParseFixedPointShiftKeepsCoefficientSpec)

/-- ITS FALSE NEIGHBOUR: 'it returns false'. Refute it at one input. -/
def fnParseFixedPointShiftKeepsCoefficientWrong : ChangeSpec := { name := "fnParseFixedPointShiftKeepsCoefficient", fn := fun _ => fun
  | [d1, d2] => { results := [.lit (.bool false)], args := [d1, d2] }
  | _ => none }
def FnParseFixedPointShiftKeepsCoefficientWrongFormAsk : Prop := fnParseFixedPointShiftKeepsCoefficientRow.holds Tryf.pinned (OpenSpec.ofChange fnParseFixedPointShiftKeepsCoefficientWrong)

end Rows
end Go.Proofs.Qxb6630151aFmt
