/-
  No cell of these rows narrows 'for every input' (looked for: loops, veiled, ifaces, maps, wideKeys, modest, calm, conditions, laid).
  DERIVED. THE GIVEN ROWS OF THIS SEAT. 2 by the template 'for every input the law returns true; each argument reads behind the call as it read before'; 0 by the template 'total and deterministic' (their statements: Qxb6612230aTotals.lean).
  GIVEN WITH THE SEED: the statements are not yours to turn. If you find one false, say at which input.
  Laid BY PROGRAM, IN A SANDBOX (cutbox-rows.mjs): the forced cells as the released guide's own fill.sh prints them over the translation d62476c3c4d30986… (all of the seat's roots in one cut). By AI agents, Wed Nov 11 2026. No macro, syntax, notation, axiom, sorry.
-/
import Derived.Test.Qxb6612230aChecked
import GoSem.Claim
import GoSem.ClaimJoined
import GoSem.ClaimMapViews
import Derived.JoinedTies
import Derived.KernelRfl
namespace Go.Proofs.Qxb6612230a
/- THE CELL 'sum', in the pinned program and in every row, IS THE sha256 OF THE DUMP (.gsa) THAT Qxb6612230aProg.lean LOADS. Nothing in Lean hashes anything: it is a label: what it is worth is what the hold of that sum in a sandbox is worth. -/
noncomputable def Try.pinned : Pinned := { name := "qxb6612230a", sum := "d62476c3c4d30986a3d7ae13c58e4f9ebf3979c3d61e7def183e6646de5cc06c", checked := Try.checked }
namespace Rows
def none {H : Type} : Left H := { results := [], args := [] }

/-- 'zzlaws_internal_epp_b1.FnTokenMatchesByteScanner': WHATEVER THE INPUT: true; the input reads as it did. -/
def fnTokenMatchesByteScannerSpec : ChangeSpec := { name := "fnTokenMatchesByteScanner", fn := fun _ => fun
  | [d] => { results := [.lit (.bool true)], args := [d] }
  | _ => none }
def fnTokenMatchesByteScannerRow : OpenClaim := { program := "qxb6612230a", sum := "d62476c3c4d30986a3d7ae13c58e4f9ebf3979c3d61e7def183e6646de5cc06c", func := "example.com/reprieve/reprieve/zzlaws_internal_epp_b1.FnTokenMatchesByteScanner", spec := "fnTokenMatchesByteScanner", inPlace := ["internal/abi.NoEscape", "internal/bytealg.MakeNoZero"], unfollowed := true, recurses := true, apart := false }
def FnTokenMatchesByteScannerSaid : Prop := fnTokenMatchesByteScannerRow.holds Try.pinned (OpenSpec.ofChange fnTokenMatchesByteScannerSpec)

/-- ITS FALSE NEIGHBOUR: 'it returns false'. Refute it at one input. -/
def fnTokenMatchesByteScannerWrong : ChangeSpec := { name := "fnTokenMatchesByteScanner", fn := fun _ => fun
  | [d] => { results := [.lit (.bool false)], args := [d] }
  | _ => none }
def FnTokenMatchesByteScannerWrongFalsely : Prop := fnTokenMatchesByteScannerRow.holds Try.pinned (OpenSpec.ofChange fnTokenMatchesByteScannerWrong)

/-- 'zzlaws_internal_epp_b1.FnTokenNormalFormKeepsText': WHATEVER THE INPUT: true; the input reads as it did. -/
def fnTokenNormalFormKeepsTextSpec : ChangeSpec := { name := "fnTokenNormalFormKeepsText", fn := fun _ => fun
  | [d] => { results := [.lit (.bool true)], args := [d] }
  | _ => none }
def fnTokenNormalFormKeepsTextRow : OpenClaim := { program := "qxb6612230a", sum := "d62476c3c4d30986a3d7ae13c58e4f9ebf3979c3d61e7def183e6646de5cc06c", func := "example.com/reprieve/reprieve/zzlaws_internal_epp_b1.FnTokenNormalFormKeepsText", spec := "fnTokenNormalFormKeepsText", inPlace := ["internal/abi.NoEscape", "internal/bytealg.MakeNoZero"], unfollowed := true, recurses := true, apart := false }
def FnTokenNormalFormKeepsTextSaid : Prop := fnTokenNormalFormKeepsTextRow.holds Try.pinned (OpenSpec.ofChange fnTokenNormalFormKeepsTextSpec)

/-- ITS FALSE NEIGHBOUR: 'it returns false'. Refute it at one input. -/
def fnTokenNormalFormKeepsTextWrong : ChangeSpec := { name := "fnTokenNormalFormKeepsText", fn := fun _ => fun
  | [d] => { results := [.lit (.bool false)], args := [d] }
  | _ => none }
def FnTokenNormalFormKeepsTextWrongFalsely : Prop := fnTokenNormalFormKeepsTextRow.holds Try.pinned (OpenSpec.ofChange fnTokenNormalFormKeepsTextWrong)

end Rows
end Go.Proofs.Qxb6612230a
