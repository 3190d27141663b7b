/-
  THE ROW AND THE TIED CARD for 'FnFormatMatchesDigitStringRounding' (seat b6612180aD).
-/
import Derived.Test.Qxb6612180aDoorWalkJ
import Derived.Test.Qxb6612180aDoorTie
import Derived.Test.Qxb6612180aDoorCards
import Derived.ProofKit
import Derived.LaidMore
import Derived.Stop.Joined
import Derived.Stop.LaidErr
import Derived.SevenTiedAt
import Derived.ChangeOld
import Derived.Below
set_option linter.unusedVariables false
namespace Go.Proofs.Qxb6612180aDoor
open Go.ChangeShapes Go.WideShapes Go.ChangeAt Go.RowKit

theorem own : ownKnob Tryd.prog.godebug = none := by kernel_rfl
theorem laidOut : laidOutB Tryd.prog = true := by kernel_rfl
def laid4 : List (String × DataW Unit) := Rows.fnFormatMatchesDigitStringRoundingRow.laid
def pw : List Int := [1, 10, 100, 1000, 10000, 100000, 1000000, 10000000, 100000000, 1000000000, 10000000000, 100000000000, 1000000000000, 10000000000000, 100000000000000, 1000000000000000, 10000000000000000, 100000000000000000, 1000000000000000000]
theorem gPow : Tryd.prog.globalNamed "example.com/tenderbook/tenderbook/decimal.pow10" = some 0 := by kernel_rfl
theorem tPow : (Tryd.prog.globals[0]?).map (·.type) = some 38 := by kernel_rfl
theorem tU64 : (Tryd.prog.globals[1]?).map (·.type) = some 54 := by kernel_rfl

theorem door_met (os : Os) (args : Array Value) : laidMetH Tryd.prog laid4 ((World.doorLaid Tryd.prog 546 os).forCall (fun _ _ => 0) ⟨#[], args, []⟩).memory :=
  laidMetH_of_parts3 (fuel := 8) (laidMet_of_run' 8 (by kernel_rfl) (by kernel_rfl)) (by kernel_rfl) (by kernel_rfl)

theorem of_laid {W : World} (h : laidMetH Tryd.prog laid4 W) : Lib.TabIs Tryd.prog W "internal/strconv.uint64pow10" .u64 Lib.pow10Tab ∧ Lib.TabIs Tryd.prog W "example.com/tenderbook/tenderbook/decimal.pow10" .i64 pw := by
  rw [MakeChecks.laidMetH_plain _ _ _ (by kernel_rfl)] at h
  have h3 := h.tail.tail
  have h4 := h3.tail
  exact ⟨Lib.tabIs_of_head Tryd.u64g tU64 Tryd.underlying54 Tryd.underlying32 (by kernel_rfl) (by kernel_rfl) h3, Lib.tabIs_of_head gPow tPow Tryd.underlying38 Tryd.underlying2 (by kernel_rfl) (by kernel_rfl) h4⟩

theorem pow_of {W : World} (h : Lib.TabIs Tryd.prog W "example.com/tenderbook/tenderbook/decimal.pow10" .i64 pw) : PowIs W := by
  intro i hi
  rw [h.cell gPow i (by simp [pw]; omega)]
  have : ∀ i : Fin 19, pw.getD i.val 0 = ((10 ^ i.val : Nat) : Int) := by decide
  rw [this ⟨i, by omega⟩]

theorem pw_cells : (Value.agg (pw.map fun z => Value.int .i64 z).toArray).cells.toList = (pw.map fun z => Value.int .i64 z) := by rfl

set_option maxRecDepth 100000 in
theorem lifted (os : Os) (started : os.Started) (H : Type) (enc : TypeId × Value → H) :
    ReturnsInHanded {} Tryd.checked os 3 .any (fun w args => (Rows.fnFormatMatchesDigitStringRoundingSpec.pre enc Tryd.prog Tryd.f3 [] false w args ∧ laidMetH Tryd.prog laid4 w) ∧ sizedMet enc Tryd.prog Tryd.f3 (OpenSpec.ofChange Rows.fnFormatMatchesDigitStringRoundingSpec) false w args)
      (Rows.fnFormatMatchesDigitStringRoundingSpec.post enc Tryd.prog Tryd.f3 false true false false) := by
  refine returnsInHanded_of_change_and (C := Tryd.checked) (X := fun w _ => laidMetH Tryd.prog laid4 w) (fun _ _ _ hh h => h.of_heap hh) own started (by kernel_rfl) Tryd.func3
    (ChangeSpec.witness_shaped (enc := enc) (C := Tryd.checked) (os := os) (X := fun w _ => laidMetH Tryd.prog laid4 w) false (World.doorLaid Tryd.prog 546 os) #[.int .i64 0, .int .i64 0, .int .i64 0] 8 rfl (World.shaped_of_RefB (by kernel_rfl) (by kernel_rfl)) (by kernel_rfl) (by kernel_rfl) (by kernel_rfl) (door_met os _)) ?_
  intro W base args ds gs before hval0 hW _ _ hL _
  have hval : ∀ (j : Nat) t v, Tryd.f3.params[j]? = some t → args[j]? = some v → Value.okWide Tryd.prog W .any base t v := hval0
  have hW' := hW
  obtain ⟨p, q, hA0, hV0, rfl, hfz, hnd⟩ := hW
  have hA : DataW.TrodAll enc Tryd.prog W 0 (fun _ => true) true Tryd.f3.params.toList args.toList ds p := hA0
  have hV : DataW.TrodVars enc Tryd.prog W (fun _ => true) ["example.com/tenderbook/tenderbook/decimal.pow10"] gs q := hV0
  rw [Tryd.params3] at hA hval
  obtain ⟨v0, v1, v2, d0, d1, d2, p0, p1, p2, rfl, rfl, rfl, h0, h1, h2⟩ := trodAll_three hA
  obtain ⟨c, rfl, rfl, rfl, w0⟩ := open_int Tryd.underlying2 (hval 0 2 v0 rfl rfl) h0
  obtain ⟨s, rfl, rfl, rfl, w1⟩ := open_int Tryd.underlying3 (hval 1 3 v1 rfl rfl) h1
  obtain ⟨pl, rfl, rfl, rfl, w2⟩ := open_int Tryd.underlying3 (hval 2 3 v2 rfl rfl) h2
  obtain ⟨hu, hp⟩ := of_laid hL
  obtain ⟨g, t, cs, fuel, d, pv, rfl, hg1, ht1, hv1, htr, rfl⟩ := trodVars_one hV
  obtain rfl := Option.some.inj (gPow.symm.trans hg1)
  obtain rfl := Option.some.inj (tPow.symm.trans ht1)
  obtain rfl := Option.some.inj (hp.symm.trans hv1)
  have hT : DataW.Trod enc Tryd.prog W 0 (fun _ => true) true 38 (.agg (pw.map fun z => Value.int .i64 z).toArray) d pv := ⟨fuel, by rw [pw_cells]; exact htr⟩
  have hlt : ∀ x ∈ pv, x.block < W.heap.size := fun x hx => DataW.trod_lt fuel _ _ _ htr x hx
  clear hA0 hval0 hV0
  refine (law c s pl W (pow_of hp) hu).mono fun e W' ⟨he, hg⟩ => ?_
  subst he
  have hT' := Below.trod laidOut (by kernel_rfl) (of_decide_eq_true (by kernel_rfl)) hT hg hlt
  obtain ⟨f2, hT2⟩ := hT'
  rw [pw_cells] at hT2
  have hv2 : W'.var? Tryd.prog "example.com/tenderbook/tenderbook/decimal.pow10" = some (pw.map fun z => Value.int .i64 z).toArray := Go.Joins.tab_stays gPow hp hg (Nat.le_refl _)
  exact ⟨_, rfl, _, _, _, [], _, _, hW', trodAll_mk1 (shut_bool Tryd.underlying4 _), trodAll_mk3 (shut_int Tryd.underlying2 w0) (shut_int Tryd.underlying3 w1) (shut_int Tryd.underlying3 w2), trodVars_mk1 gPow tPow hv2 hT2, hg.frame _, fun h => by cases h⟩

theorem row_holds : Rows.FnFormatMatchesDigitStringRoundingSaid :=
  OpenClaim.holds_of_wide 3 Tryd.f3 rfl rfl rfl rfl rfl rfl rfl ⟨rfl, rfl, rfl, rfl, rfl⟩ rfl rfl rfl rfl rfl (by kernel_rfl) Tryd.func3 (by kernel_rfl)
    (of_decide_eq_true (by kernel_rfl)) (by unfold Func.isWrapper; first | (rw [if_pos (by decide +kernel)]; kernel_rfl) | (rw [if_neg (by decide +kernel)]; exact ⟨rfl, rfl⟩))
    (fun os started H enc _ => lifted os started H enc)

theorem proved : Rows.FnFormatMatchesDigitStringRoundingCardSaid :=
  Claim7.holds_tied_plain_at .later [] [.data, .data, .data, .called] true (true, "28b537f4d807bb026c7d723c20f74fcf9d9df55b4966ac04304effa00398877e") false
    row_holds (fun _ h => by cases h) (by kernel_rfl) (fun _ h => by cases h) fnFormatMatchesDigitStringRounding_row_tie rfl ⟨rfl, rfl⟩ (by kernel_rfl) rfl
    (fun f fn hf hfn => by
      obtain rfl : f = 3 := Option.some.inj ((show Tryd.prog.funcNamed "example.com/tenderbook/tenderbook/zzlaws_decimal_b1.FnFormatMatchesDigitStringRounding" = some 3 by kernel_rfl).symm.trans hf) |>.symm
      obtain rfl : fn = Tryd.f3 := (Option.some.inj (Tryd.func3.symm.trans hfn)).symm
      exact ⟨by kernel_rfl, fun j t ht => by
        rw [Tryd.params3] at ht
        have hm : t ∈ [2, 3, 3] := by simpa using Array.mem_of_getElem? ht
        have hall : ([2, 3, 3].all fun u => !Tryd.prog.wantsStandIn u) = true := by kernel_rfl
        exact (show Tryd.prog.wantsStandIn t = false by simpa using List.all_eq_true.1 hall t hm)⟩)
    (by kernel_rfl)
end Go.Proofs.Qxb6612180aDoor
