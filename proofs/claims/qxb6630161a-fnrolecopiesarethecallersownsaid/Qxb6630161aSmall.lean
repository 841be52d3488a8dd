/-
  Seat b6630161a: what the functions that bound the arguments' length say.
-/
import Derived.Test.Qxb6630161aBase
namespace Go.Proofs.Qxb6630161a
open Go.RowKit

/-- some bool; if it is true the specs are small; and the world as it was. -/
def Small (w : World) (X : Sps) (e : Ending) (w' : World) : Prop := ∃ r : Bool, e = .returned (.bool r) ∧ (r = true → X.ok) ∧ w = w'
theorem smallNo {w : World} {X : Sps} {e : Ending} (h : e = .returned (.bool false)) : Small w X e w := ⟨false, h, (fun h => nomatch h), rfl⟩

end Go.Proofs.Qxb6630161a
