/-
  No cell of these rows narrows 'for every input' (looked for: loops, veiled, ifaces, maps, wideKeys, modest, calm, conditions, laid).
  DERIVED. THE GIVEN ROWS OF THIS SEAT. 2 by the template 'for every input the law returns true; each argument reads behind the call as it read before'; 0 by the template 'total and deterministic' (their statements: Qxb6630161aTotals.lean).
  GIVEN WITH THE SEED: the statements are not yours to turn. If you find one false, say at which input.
  Laid BY PROGRAM, IN A SANDBOX (cutbox-rows.mjs): the forced cells as the released guide's own fill.sh prints them over the translation c9b72d0691bee1de… (all of the seat's roots in one cut). By AI agents, Wed Nov 11 2026. No macro, syntax, notation, axiom, sorry.
-/
import Derived.Test.Qxb6630161aChecked
import GoSem.Claim
import GoSem.ClaimJoined
import GoSem.ClaimMapViews
import Derived.JoinedTies
import Derived.KernelRfl
namespace Go.Proofs.Qxb6630161a
/- THE CELL 'sum', in the pinned program and in every row, IS THE sha256 OF THE DUMP (.gsa) THAT Qxb6630161aProg.lean LOADS. Nothing in Lean hashes anything: it is a label: what it is worth is what the hold of that sum in a sandbox is worth. -/
noncomputable def Try.pinned : Pinned := { name := "qxb6630161a", sum := "c9b72d0691bee1de441bf2bb6f738995a55d364d622e2c823243f9db8b3332d3", checked := Try.checked }
namespace Rows
def none {H : Type} : Left H := { results := [], args := [] }

/-- 'zzlaws_pkg_engine_b1.FnRoleIsLastWrittenRoleUnderName': WHATEVER THE INPUT: true; the input reads as it did. -/
def fnRoleIsLastWrittenRoleUnderNameSpec : ChangeSpec := { name := "fnRoleIsLastWrittenRoleUnderName", fn := fun _ => fun
  | [d1, d2] => { results := [.lit (.bool true)], args := [d1, d2] }
  | _ => none }
def fnRoleIsLastWrittenRoleUnderNameRow : OpenClaim := { program := "qxb6630161a", sum := "c9b72d0691bee1de441bf2bb6f738995a55d364d622e2c823243f9db8b3332d3", func := "example.com/deft-permit/deft-permit/zzlaws_pkg_engine_b1.FnRoleIsLastWrittenRoleUnderName", spec := "fnRoleIsLastWrittenRoleUnderName", plainKeys := false, apart := false }
def FnRoleIsLastWrittenRoleUnderNameSaid : Prop := fnRoleIsLastWrittenRoleUnderNameRow.holds Try.pinned (OpenSpec.ofChange fnRoleIsLastWrittenRoleUnderNameSpec)

/-- ITS FALSE NEIGHBOUR: 'it returns false'. Refute it at one input. -/
def fnRoleIsLastWrittenRoleUnderNameWrong : ChangeSpec := { name := "fnRoleIsLastWrittenRoleUnderName", fn := fun _ => fun
  | [d1, d2] => { results := [.lit (.bool false)], args := [d1, d2] }
  | _ => none }
def FnRoleIsLastWrittenRoleUnderNameWrongFalsely : Prop := fnRoleIsLastWrittenRoleUnderNameRow.holds Try.pinned (OpenSpec.ofChange fnRoleIsLastWrittenRoleUnderNameWrong)

/-- 'zzlaws_pkg_engine_b1.FnRoleCopiesAreTheCallersOwn': WHATEVER THE INPUT: true; the input reads as it did. -/
def fnRoleCopiesAreTheCallersOwnSpec : ChangeSpec := { name := "fnRoleCopiesAreTheCallersOwn", fn := fun _ => fun
  | [d1, d2] => { results := [.lit (.bool true)], args := [d1, d2] }
  | _ => none }
def fnRoleCopiesAreTheCallersOwnRow : OpenClaim := { program := "qxb6630161a", sum := "c9b72d0691bee1de441bf2bb6f738995a55d364d622e2c823243f9db8b3332d3", func := "example.com/deft-permit/deft-permit/zzlaws_pkg_engine_b1.FnRoleCopiesAreTheCallersOwn", spec := "fnRoleCopiesAreTheCallersOwn", plainKeys := false, apart := false }
def FnRoleCopiesAreTheCallersOwnSaid : Prop := fnRoleCopiesAreTheCallersOwnRow.holds Try.pinned (OpenSpec.ofChange fnRoleCopiesAreTheCallersOwnSpec)

/-- ITS FALSE NEIGHBOUR: 'it returns false'. Refute it at one input. -/
def fnRoleCopiesAreTheCallersOwnWrong : ChangeSpec := { name := "fnRoleCopiesAreTheCallersOwn", fn := fun _ => fun
  | [d1, d2] => { results := [.lit (.bool false)], args := [d1, d2] }
  | _ => none }
def FnRoleCopiesAreTheCallersOwnWrongFalsely : Prop := fnRoleCopiesAreTheCallersOwnRow.holds Try.pinned (OpenSpec.ofChange fnRoleCopiesAreTheCallersOwnWrong)

end Rows
end Go.Proofs.Qxb6630161a
