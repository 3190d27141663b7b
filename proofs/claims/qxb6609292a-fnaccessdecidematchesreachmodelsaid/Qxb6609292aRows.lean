/-
  No cell of these rows narrows 'for every input' (looked for: loops, veiled, ifaces, maps, wideKeys, modest, calm, conditions, laid).
  DERIVED. THE GIVEN ROWS OF THIS SEAT. 2 by the template 'for every input the law returns true; each argument reads behind the call as it read before'; 0 by the template 'total and deterministic' (their statements: Qxb6609292aTotals.lean).
  GIVEN WITH THE SEED: the statements are not yours to turn. If you find one false, say at which input.
  Laid BY PROGRAM, IN A SANDBOX (cutbox-rows.mjs): the forced cells as the released guide's own fill.sh prints them over the translation 1468a00e45defdc6… (all of the seat's roots in one cut). By AI agents, Wed Nov 11 2026. No macro, syntax, notation, axiom, sorry.
-/
import Derived.Test.Qxb6609292aChecked
import GoSem.Claim
import GoSem.ClaimJoined
import GoSem.ClaimMapViews
import Derived.JoinedTies
import Derived.KernelRfl
namespace Go.Proofs.Qxb6609292a
/- THE CELL 'sum', in the pinned program and in every row, IS THE sha256 OF THE DUMP (.gsa) THAT Qxb6609292aProg.lean LOADS. Nothing in Lean hashes anything: it is a label: what it is worth is what the hold of that sum in a sandbox is worth. -/
noncomputable def Try.pinned : Pinned := { name := "qxb6609292a", sum := "1468a00e45defdc6c924f7f7a06bc3c6fe4854a09e29355b48b4c2f344069a48", checked := Try.checked }
namespace Rows
def none {H : Type} : Left H := { results := [], args := [] }

/-- 'zzlaws_root_b1.FnAccessDecideMatchesReachModel': WHATEVER THE INPUT: true; the input reads as it did. -/
def fnAccessDecideMatchesReachModelSpec : ChangeSpec := { name := "fnAccessDecideMatchesReachModel", fn := fun _ => fun
  | [d1, d2, d3, d4, d5, d6, d7, d8, d9, d10] => { results := [.lit (.bool true)], args := [d1, d2, d3, d4, d5, d6, d7, d8, d9, d10] }
  | _ => none }
def fnAccessDecideMatchesReachModelRow : OpenClaim := { program := "qxb6609292a", sum := "1468a00e45defdc6c924f7f7a06bc3c6fe4854a09e29355b48b4c2f344069a48", func := "example.com/visibility-by-org/visibility-by-org/zzlaws_root_b1.FnAccessDecideMatchesReachModel", spec := "fnAccessDecideMatchesReachModel", inPlace := ["maps.clone"], unfollowed := true, recurses := true, apart := false }
def FnAccessDecideMatchesReachModelSaid : Prop := fnAccessDecideMatchesReachModelRow.holds Try.pinned (OpenSpec.ofChange fnAccessDecideMatchesReachModelSpec)

/-- ITS FALSE NEIGHBOUR: 'it returns false'. Refute it at one input. -/
def fnAccessDecideMatchesReachModelWrong : ChangeSpec := { name := "fnAccessDecideMatchesReachModel", fn := fun _ => fun
  | [d1, d2, d3, d4, d5, d6, d7, d8, d9, d10] => { results := [.lit (.bool false)], args := [d1, d2, d3, d4, d5, d6, d7, d8, d9, d10] }
  | _ => none }
def FnAccessDecideMatchesReachModelWrongFalsely : Prop := fnAccessDecideMatchesReachModelRow.holds Try.pinned (OpenSpec.ofChange fnAccessDecideMatchesReachModelWrong)

/-- 'zzlaws_root_b1.FnAccessDecideRefusesWithoutOwnGrant': WHATEVER THE INPUT: true; the input reads as it did. -/
def fnAccessDecideRefusesWithoutOwnGrantSpec : ChangeSpec := { name := "fnAccessDecideRefusesWithoutOwnGrant", fn := fun _ => fun
  | [d1, d2, d3, d4, d5, d6, d7, d8, d9, d10] => { results := [.lit (.bool true)], args := [d1, d2, d3, d4, d5, d6, d7, d8, d9, d10] }
  | _ => none }
def fnAccessDecideRefusesWithoutOwnGrantRow : OpenClaim := { program := "qxb6609292a", sum := "1468a00e45defdc6c924f7f7a06bc3c6fe4854a09e29355b48b4c2f344069a48", func := "example.com/visibility-by-org/visibility-by-org/zzlaws_root_b1.FnAccessDecideRefusesWithoutOwnGrant", spec := "fnAccessDecideRefusesWithoutOwnGrant", inPlace := ["maps.clone"], unfollowed := true, recurses := true, apart := false }
def FnAccessDecideRefusesWithoutOwnGrantSaid : Prop := fnAccessDecideRefusesWithoutOwnGrantRow.holds Try.pinned (OpenSpec.ofChange fnAccessDecideRefusesWithoutOwnGrantSpec)

/-- ITS FALSE NEIGHBOUR: 'it returns false'. Refute it at one input. -/
def fnAccessDecideRefusesWithoutOwnGrantWrong : ChangeSpec := { name := "fnAccessDecideRefusesWithoutOwnGrant", fn := fun _ => fun
  | [d1, d2, d3, d4, d5, d6, d7, d8, d9, d10] => { results := [.lit (.bool false)], args := [d1, d2, d3, d4, d5, d6, d7, d8, d9, d10] }
  | _ => none }
def FnAccessDecideRefusesWithoutOwnGrantWrongFalsely : Prop := fnAccessDecideRefusesWithoutOwnGrantRow.holds Try.pinned (OpenSpec.ofChange fnAccessDecideRefusesWithoutOwnGrantWrong)

end Rows
end Go.Proofs.Qxb6609292a
