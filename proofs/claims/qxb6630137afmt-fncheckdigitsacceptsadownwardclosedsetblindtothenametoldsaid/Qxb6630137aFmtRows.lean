/-
  No cell of these rows narrows 'for every input' (looked for: loops, veiled, ifaces, maps, wideKeys, modest, calm, conditions, laid).
  DERIVED. THE GIVEN ROWS OF THIS SEAT. 2 by the template 'for every input the law returns true; each argument reads behind the call as it read before'; 0 by the template 'total and deterministic' (their statements: Qxb6630137aFmtTotals.lean).
  GIVEN WITH THE SEED: the statements are not yours to turn. If you find one false, say at which input.
  Laid BY PROGRAM, IN A SANDBOX (cutbox-rows.mjs): the forced cells as the released guide's own fill.sh prints them over the translation cb67f47a0431992c… (all of the seat's roots in one cut). By AI agents, Wed Nov 11 2026. No macro, syntax, notation, axiom, sorry.
-/
import Derived.Test.Qxb6630137aFmtChecked
import GoSem.Claim
import GoSem.ClaimJoined
import GoSem.ClaimMapViews
import Derived.JoinedTies
import Derived.KernelRfl
namespace Go.Proofs.Qxb6630137aFmt
/- THE CELL 'sum', in the pinned program and in every row, IS THE sha256 OF THE DUMP (.gsa) THAT Qxb6630137aFmtProg.lean LOADS. Nothing in Lean hashes anything: it is a label: what it is worth is what the hold of that sum in a sandbox is worth. -/
noncomputable def Tryf.pinned : Pinned := { name := "qxb6630137afmt", sum := "cb67f47a0431992c27ef7f5a0cae015cf873ee6e1c4e33560c4c4e1e20a27bec", checked := Tryf.checked }
namespace Rows
def none {H : Type} : Left H := { results := [], args := [] }

/-- 'zzlaws_catalogue_b1.FnCheckDigitsRefusesExactlyBeyondTheirPlaces': WHATEVER THE INPUT: true; the input reads as it did. -/
def fnCheckDigitsRefusesExactlyBeyondTheirPlacesSpec : ChangeSpec := { name := "fnCheckDigitsRefusesExactlyBeyondTheirPlaces", fn := fun _ => fun
  | [d1, d2, d3] => { results := [.lit (.bool true)], args := [d1, d2, d3] }
  | _ => none }
def fnCheckDigitsRefusesExactlyBeyondTheirPlacesRow : OpenClaim := { program := "qxb6630137afmt", sum := "cb67f47a0431992c27ef7f5a0cae015cf873ee6e1c4e33560c4c4e1e20a27bec", func := "example.com/ratebook/ratebook/zzlaws_catalogue_b1.FnCheckDigitsRefusesExactlyBeyondTheirPlaces", spec := "fnCheckDigitsRefusesExactlyBeyondTheirPlaces", stops := ["fmt.errorf"], inPlace := ["fmt.errorf"], apart := false }
/-- NO THEOREM (fmt's text is open here; it may be false): for the released tool's asking of the row's closed facts alone. THE STATEMENT IS 'FnCheckDigitsRefusesExactlyBeyondTheirPlacesToldSaid' (Qxb6630137aFmtCards.lean). -/
def FnCheckDigitsRefusesExactlyBeyondTheirPlacesFormAsk : Prop := fnCheckDigitsRefusesExactlyBeyondTheirPlacesRow.holds Tryf.pinned (OpenSpec.ofChange fnCheckDigitsRefusesExactlyBeyondTheirPlacesSpec)

/-- ITS FALSE NEIGHBOUR: 'it returns false'. Refute it at one input. -/
def fnCheckDigitsRefusesExactlyBeyondTheirPlacesWrong : ChangeSpec := { name := "fnCheckDigitsRefusesExactlyBeyondTheirPlaces", fn := fun _ => fun
  | [d1, d2, d3] => { results := [.lit (.bool false)], args := [d1, d2, d3] }
  | _ => none }
def FnCheckDigitsRefusesExactlyBeyondTheirPlacesWrongFormAsk : Prop := fnCheckDigitsRefusesExactlyBeyondTheirPlacesRow.holds Tryf.pinned (OpenSpec.ofChange fnCheckDigitsRefusesExactlyBeyondTheirPlacesWrong)

/-- 'zzlaws_catalogue_b1.FnCheckDigitsAcceptsADownwardClosedSetBlindToTheName': WHATEVER THE INPUT: true; the input reads as it did. -/
def fnCheckDigitsAcceptsADownwardClosedSetBlindToTheNameSpec : ChangeSpec := { name := "fnCheckDigitsAcceptsADownwardClosedSetBlindToTheName", fn := fun _ => fun
  | [d1, d2, d3, d4, d5, d6] => { results := [.lit (.bool true)], args := [d1, d2, d3, d4, d5, d6] }
  | _ => none }
def fnCheckDigitsAcceptsADownwardClosedSetBlindToTheNameRow : OpenClaim := { program := "qxb6630137afmt", sum := "cb67f47a0431992c27ef7f5a0cae015cf873ee6e1c4e33560c4c4e1e20a27bec", func := "example.com/ratebook/ratebook/zzlaws_catalogue_b1.FnCheckDigitsAcceptsADownwardClosedSetBlindToTheName", spec := "fnCheckDigitsAcceptsADownwardClosedSetBlindToTheName", stops := ["fmt.errorf"], inPlace := ["fmt.errorf"], apart := false }
/-- NO THEOREM (fmt's text is open here; it may be false): for the released tool's asking of the row's closed facts alone. THE STATEMENT IS 'FnCheckDigitsAcceptsADownwardClosedSetBlindToTheNameToldSaid' (Qxb6630137aFmtCards.lean). -/
def FnCheckDigitsAcceptsADownwardClosedSetBlindToTheNameFormAsk : Prop := fnCheckDigitsAcceptsADownwardClosedSetBlindToTheNameRow.holds Tryf.pinned (OpenSpec.ofChange fnCheckDigitsAcceptsADownwardClosedSetBlindToTheNameSpec)

/-- ITS FALSE NEIGHBOUR: 'it returns false'. Refute it at one input. -/
def fnCheckDigitsAcceptsADownwardClosedSetBlindToTheNameWrong : ChangeSpec := { name := "fnCheckDigitsAcceptsADownwardClosedSetBlindToTheName", fn := fun _ => fun
  | [d1, d2, d3, d4, d5, d6] => { results := [.lit (.bool false)], args := [d1, d2, d3, d4, d5, d6] }
  | _ => none }
def FnCheckDigitsAcceptsADownwardClosedSetBlindToTheNameWrongFormAsk : Prop := fnCheckDigitsAcceptsADownwardClosedSetBlindToTheNameRow.holds Tryf.pinned (OpenSpec.ofChange fnCheckDigitsAcceptsADownwardClosedSetBlindToTheNameWrong)

end Rows
end Go.Proofs.Qxb6630137aFmt
