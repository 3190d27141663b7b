/-
  No cell of these rows narrows 'for every input' (looked for: loops, veiled, ifaces, maps, wideKeys, modest, calm, conditions, laid).
  DERIVED. THE GIVEN ROWS OF THIS SEAT. 1 by the template 'for every input the law returns true; each argument reads behind the call as it read before'; 0 by the template 'total and deterministic' (their statements: Qxb6612212aTotals.lean).
  GIVEN WITH THE SEED: the statements are not yours to turn. If you find one false, say at which input.
  Laid BY PROGRAM, IN A SANDBOX (cutbox-rows.mjs): the forced cells as the released guide's own fill.sh prints them over the translation 43b1991564262a58… (all of the seat's roots in one cut). By AI agents, Wed Nov 11 2026. No macro, syntax, notation, axiom, sorry.
-/
import Derived.Test.Qxb6612212aChecked
import GoSem.Claim
import GoSem.ClaimJoined
import GoSem.ClaimMapViews
import Derived.JoinedTies
import Derived.KernelRfl
namespace Go.Proofs.Qxb6612212a
/- THE CELL 'sum', in the pinned program and in every row, IS THE sha256 OF THE DUMP (.gsa) THAT Qxb6612212aProg.lean LOADS. Nothing in Lean hashes anything: it is a label: what it is worth is what the hold of that sum in a sandbox is worth. -/
noncomputable def Try.pinned : Pinned := { name := "qxb6612212a", sum := "43b1991564262a58e9e1342ab24e396ab2eec63d84974ff0af78c10732a84c0b", checked := Try.checked }
namespace Rows
def none {H : Type} : Left H := { results := [], args := [] }

/-- 'zzlaws_internal_sales_b1.FnGrossStepsByUnitPrice': WHATEVER THE INPUT: true; the input reads as it did. -/
def fnGrossStepsByUnitPriceSpec : ChangeSpec := { name := "fnGrossStepsByUnitPrice", fn := fun _ => fun
  | [d1, d2, d3, d4] => { results := [.lit (.bool true)], args := [d1, d2, d3, d4] }
  | _ => none }
def fnGrossStepsByUnitPriceRow : OpenClaim := { program := "qxb6612212a", sum := "43b1991564262a58e9e1342ab24e396ab2eec63d84974ff0af78c10732a84c0b", func := "example.com/plumbline/plumbline/zzlaws_internal_sales_b1.FnGrossStepsByUnitPrice", spec := "fnGrossStepsByUnitPrice", apart := false }
def FnGrossStepsByUnitPriceSaid : Prop := fnGrossStepsByUnitPriceRow.holds Try.pinned (OpenSpec.ofChange fnGrossStepsByUnitPriceSpec)

/-- ITS FALSE NEIGHBOUR: 'it returns false'. Refute it at one input. -/
def fnGrossStepsByUnitPriceWrong : ChangeSpec := { name := "fnGrossStepsByUnitPrice", fn := fun _ => fun
  | [d1, d2, d3, d4] => { results := [.lit (.bool false)], args := [d1, d2, d3, d4] }
  | _ => none }
def FnGrossStepsByUnitPriceWrongFalsely : Prop := fnGrossStepsByUnitPriceRow.holds Try.pinned (OpenSpec.ofChange fnGrossStepsByUnitPriceWrong)

end Rows
end Go.Proofs.Qxb6612212a
