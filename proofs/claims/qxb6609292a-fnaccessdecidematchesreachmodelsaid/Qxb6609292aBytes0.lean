/-
  THE WALK of zzBytes, seat b6609292a (laid by a script of this seat's).
-/
import Derived.Test.Qxb6609292aWant0
set_option linter.unusedVariables false
set_option linter.unusedSimpArgs false
namespace Go.Proofs.Qxb6609292a
open Go.RowKit Go.Maps

structure Small (os : List Org) (rs : List Role) (us : List User) (ss : List Share) (an : List ByteArray) : Prop where
  no : os.length ≤ 1048576
  nr : rs.length ≤ 1048576
  ng : ∀ r ∈ rs, r.grants.length ≤ 1048576
  nu : us.length ≤ 1048576
  nur : ∀ u ∈ us, u.roles.length ≤ 1048576
  ns : ss.length ≤ 1048576
  nsp : ∀ s ∈ ss, s.perms.length ≤ 1048576
  na : an.length ≤ 1048576
def BytesPost (os : List Org) (rs : List Role) (us : List User) (ss : List Share) (an : List ByteArray) (w : World) : Ending → World → Prop := fun e w' => ∃ b : Bool, (b = true → Small os rs us ss an) ∧ e = .returned (.bool b) ∧ w = w'
theorem le_mk {a : Nat} (h : ¬ (1048576 : Int) < (a : Int)) : a ≤ 1048576 := by omega
end Go.Proofs.Qxb6609292a
