/-
  No cell of these rows narrows 'for every input' (looked for: loops, veiled, ifaces, maps, wideKeys, modest, calm, conditions, laid).
  DERIVED. THE GIVEN ROWS OF THIS SEAT. 2 by the template 'for every input the law returns true; each argument reads behind the call as it read before'; 0 by the template 'total and deterministic' (their statements: Qxb6630020aTotals.lean).
  GIVEN WITH THE SEED: the statements are not yours to turn. If you find one false, say at which input.
  Laid BY PROGRAM, IN A SANDBOX (cutbox-rows.mjs): the forced cells as the released guide's own fill.sh prints them over the translation e4cf8e89a75381fa… (all of the seat's roots in one cut). By AI agents, Wed Nov 11 2026. No macro, syntax, notation, axiom, sorry.
-/
import Derived.Test.Qxb6630020aChecked
import GoSem.Claim
import GoSem.ClaimJoined
import GoSem.ClaimMapViews
import Derived.JoinedTies
import Derived.KernelRfl
namespace Go.Proofs.Qxb6630020a
/- THE CELL 'sum', in the pinned program and in every row, IS THE sha256 OF THE DUMP (.gsa) THAT Qxb6630020aProg.lean LOADS. Nothing in Lean hashes anything: it is a label: what it is worth is what the hold of that sum in a sandbox is worth. -/
noncomputable def Try.pinned : Pinned := { name := "qxb6630020a", sum := "e4cf8e89a75381facd62ca24e9d16640d460416217d34dcb2a703c41b0f7c7e3", checked := Try.checked }
namespace Rows
def none {H : Type} : Left H := { results := [], args := [] }

/-- 'zzlaws_pkg_dnsmsg_b1.FnAppendNameTextIsCanonicalTextOfLabels': WHATEVER THE INPUT: true; the input reads as it did. -/
def fnAppendNameTextIsCanonicalTextOfLabelsSpec : ChangeSpec := { name := "fnAppendNameTextIsCanonicalTextOfLabels", fn := fun _ => fun
  | [d1, d2] => { results := [.lit (.bool true)], args := [d1, d2] }
  | _ => none }
def fnAppendNameTextIsCanonicalTextOfLabelsRow : OpenClaim := { program := "qxb6630020a", sum := "e4cf8e89a75381facd62ca24e9d16640d460416217d34dcb2a703c41b0f7c7e3", func := "example.com/hushwire/hushwire/zzlaws_pkg_dnsmsg_b1.FnAppendNameTextIsCanonicalTextOfLabels", spec := "fnAppendNameTextIsCanonicalTextOfLabels", apart := false }
def FnAppendNameTextIsCanonicalTextOfLabelsSaid : Prop := fnAppendNameTextIsCanonicalTextOfLabelsRow.holds Try.pinned (OpenSpec.ofChange fnAppendNameTextIsCanonicalTextOfLabelsSpec)

/-- ITS FALSE NEIGHBOUR: 'it returns false'. Refute it at one input. -/
def fnAppendNameTextIsCanonicalTextOfLabelsWrong : ChangeSpec := { name := "fnAppendNameTextIsCanonicalTextOfLabels", fn := fun _ => fun
  | [d1, d2] => { results := [.lit (.bool false)], args := [d1, d2] }
  | _ => none }
def FnAppendNameTextIsCanonicalTextOfLabelsWrongFalsely : Prop := fnAppendNameTextIsCanonicalTextOfLabelsRow.holds Try.pinned (OpenSpec.ofChange fnAppendNameTextIsCanonicalTextOfLabelsWrong)

/-- 'zzlaws_pkg_dnsmsg_b1.FnAppendNameTextSplitsAtFirstLabel': WHATEVER THE INPUT: true; the input reads as it did. -/
def fnAppendNameTextSplitsAtFirstLabelSpec : ChangeSpec := { name := "fnAppendNameTextSplitsAtFirstLabel", fn := fun _ => fun
  | [d1, d2] => { results := [.lit (.bool true)], args := [d1, d2] }
  | _ => none }
def fnAppendNameTextSplitsAtFirstLabelRow : OpenClaim := { program := "qxb6630020a", sum := "e4cf8e89a75381facd62ca24e9d16640d460416217d34dcb2a703c41b0f7c7e3", func := "example.com/hushwire/hushwire/zzlaws_pkg_dnsmsg_b1.FnAppendNameTextSplitsAtFirstLabel", spec := "fnAppendNameTextSplitsAtFirstLabel", apart := false }
def FnAppendNameTextSplitsAtFirstLabelSaid : Prop := fnAppendNameTextSplitsAtFirstLabelRow.holds Try.pinned (OpenSpec.ofChange fnAppendNameTextSplitsAtFirstLabelSpec)

/-- ITS FALSE NEIGHBOUR: 'it returns false'. Refute it at one input. -/
def fnAppendNameTextSplitsAtFirstLabelWrong : ChangeSpec := { name := "fnAppendNameTextSplitsAtFirstLabel", fn := fun _ => fun
  | [d1, d2] => { results := [.lit (.bool false)], args := [d1, d2] }
  | _ => none }
def FnAppendNameTextSplitsAtFirstLabelWrongFalsely : Prop := fnAppendNameTextSplitsAtFirstLabelRow.holds Try.pinned (OpenSpec.ofChange fnAppendNameTextSplitsAtFirstLabelWrong)

end Rows
end Go.Proofs.Qxb6630020a
