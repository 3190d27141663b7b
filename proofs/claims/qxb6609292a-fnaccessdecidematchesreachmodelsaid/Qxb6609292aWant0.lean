/-
  THE WALK of wantOf, seat b6609292a, part 0 (laid by a script of this seat's).
-/
import Derived.Test.Qxb6609292aWalkE
set_option linter.unusedVariables false
set_option linter.unusedSimpArgs false
namespace Go.Proofs.Qxb6609292a
open Go.RowKit Go.Maps

/-- What is left of a sequence when n statements are done. -/
def dropSeq : Nat → Code → Code
  | 0, c => c
  | n + 1, .seq _ b => dropSeq n b
  | _ + 1, c => c
def WantPost (os : List Org) (rs : List Role) (us : List User) (ss : List Share) (w : World) : Ending → World → Prop := fun e w' =>
  ∃ k a1 a2 a3 a4 a5 a6 a7, (k = 0 → Valid os rs us ss) ∧ e = .returned (.agg #[.int .i64 k, a1, a2, a3, a4, a5, a6, a7]) ∧ Ext w w'
end Go.Proofs.Qxb6609292a
