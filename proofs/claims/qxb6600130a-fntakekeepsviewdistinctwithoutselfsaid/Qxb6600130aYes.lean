/-
  'It returns true' behind a name.
-/
import Derived.Below
namespace Go.Proofs.Qxb6600130a
open Go.RowKit

/-- It returns true, and nothing that was there has turned. -/
def YesV (w : World) (e : Ending) (w' : World) : Prop := e = .returned (.bool true) ∧ Below w.heap.size w w'
theorem yesv_mk {w w' : World} {e : Ending} (h1 : e = .returned (.bool true)) (h2 : Below w.heap.size w w') : YesV w e w' := ⟨h1, h2⟩

end Go.Proofs.Qxb6600130a
