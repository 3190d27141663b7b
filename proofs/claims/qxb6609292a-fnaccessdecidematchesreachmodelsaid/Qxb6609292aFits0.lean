/-
  THE WALK of fitsWorld, seat b6609292a (laid by a script of this seat's).
-/
import Derived.Test.Qxb6609292aFits
import Derived.Test.Qxb6609292aWant0
set_option linter.unusedVariables false
set_option linter.unusedSimpArgs false
namespace Go.Proofs.Qxb6609292a
open Go.RowKit Go.Maps

/-- What is left of a sequence when n statements are done. -/
def FitsPost (w : World) : Ending → World → Prop := fun e w' => ∃ b : Bool, e = .returned (.bool b) ∧ Ext w w'
theorem bud_over {w : World} {g : Nat} (h : Bud w g) : ∃ o : Bool, w.cell? ⟨g, 1, none⟩ = some (.bool o) := by
  obtain ⟨u, o, hb, _⟩ := h; exact ⟨o, hb.cell rfl⟩
end Go.Proofs.Qxb6609292a
