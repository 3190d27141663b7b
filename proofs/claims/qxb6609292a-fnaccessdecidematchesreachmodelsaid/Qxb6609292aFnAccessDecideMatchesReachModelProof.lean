/-
  THE ROW for 'FnAccessDecideMatchesReachModel' (seat b6609292a).
-/
import Derived.Test.Qxb6609292aRow
import Derived.Test.Qxb6609292aLawM
import Derived.Test.Qxb6609292aNewM
set_option linter.unusedVariables false
namespace Go.Proofs.Qxb6609292a.fnAccessDecideMatchesReachModel
open Go.Proofs.Qxb6609292a
open Go.ChangeShapes Go.WideShapes Go.ChangeAt Go.RowKit

theorem newOk (os : List Org) (an : List ByteArray) : NewOk os an := fun rl us sl vO vR vU vS vA w hn hnr hnu hns hna hos hRs hUs hSs han hur hnp hv =>
  newModel_any os rl us sl an vO vR vU vS vA w hn hnr hnu hns hna hos hRs hUs hSs han hur hnp hv
theorem params : Try.f3.params = #[22, 23, 24, 25, 26, 9, 9, 9, 9, 9] := by kernel_rfl

set_option maxRecDepth 100000 in
theorem lifted (os : Os) (started : os.Started) (H : Type) (enc : TypeId × Value → H) :
    ReturnsInHanded {} Try.checked os 3 .any (Rows.fnAccessDecideMatchesReachModelSpec.pre6 enc Try.prog Try.f3 Rows.fnAccessDecideMatchesReachModelRow.domain false) (Rows.fnAccessDecideMatchesReachModelSpec.post enc Try.prog Try.f3 false true false false) := by
  refine returnsInHanded_of_change (C := Try.checked) own started (by kernel_rfl) Try.func3
    (ChangeSpec.witness6 (enc := enc) (C := Try.checked) false ⟨#[], #[.slice none 0 0, .slice none 0 0, .slice none 0 0, .slice none 0 0, .slice none 0 0, .string ByteArray.empty, .string ByteArray.empty, .string ByteArray.empty, .string ByteArray.empty, .string ByteArray.empty], []⟩ 8 (by kernel_rfl) (by kernel_rfl) (by kernel_rfl) (by kernel_rfl)) ?_
  intro W base args ds gs before hval0 hW hcnd _
  have hval : ∀ (j : Nat) t v, Try.f3.params[j]? = some t → args[j]? = some v → Value.okWide Try.prog W .any base t v := hval0
  have hW' := hW
  obtain ⟨p, q, hA0, hV, rfl, hfz, hnd⟩ := hW
  have hA : DataW.TrodAll enc Try.prog W 0 (fun _ => true) true Try.f3.params.toList args.toList ds p := hA0
  have hA' := hA
  rw [params] at hA hval
  obtain ⟨vo, vr, vu, vs, va, user, role, org, perm, owner, rfl, ⟨d0, d1, d2, d3, d4, d5, d6, d7, d8, d9, rfl⟩, ⟨os', ho⟩, ⟨rs, hr⟩, ⟨us, hu⟩, ⟨ss, hs⟩, ⟨an, ha⟩, ou, orl, oo, op, oow⟩ := opened hA hval
  obtain ⟨rfl, rfl⟩ := trodVars_none hV
  clear hA0 hval0
  refine (law3_any vo vr vu vs va os' rs us ss an user role org perm owner W ho hr hu hs ha orl op oow oo (newOk os' an)).mono fun e W' ⟨he, hg⟩ => ?_
  subst he
  have hlt := DataW.TrodAll.lt hA
  have hargs := trodAll_below laidOut hg readable hlt hA
  exact ⟨_, rfl, _, _, _, [], _, [], hW', trodAll_mk1 (shut_bool Try.underlying4 _), (by rw [params]; exact hargs), rfl, hg.frame _, fun h => by cases h⟩

theorem proved : Rows.FnAccessDecideMatchesReachModelSaid :=
  OpenClaim.holds_of_wide 3 Try.f3 rfl rfl rfl rfl rfl rfl rfl ⟨rfl, rfl, rfl, rfl, rfl⟩ rfl rfl rfl rfl rfl (by kernel_rfl) Try.func3 (by kernel_rfl)
    (of_decide_eq_true (by kernel_rfl)) (by unfold Func.isWrapper; first | (rw [if_pos (by decide +kernel)]; kernel_rfl) | (rw [if_neg (by decide +kernel)]; exact ⟨rfl, rfl⟩))
    (fun os started H enc _ => lifted os started H enc)
end Go.Proofs.Qxb6609292a.fnAccessDecideMatchesReachModel
