/-
  THE ROW for 'FnGrossStepsByUnitPrice' (seat b6612212a): the guide's template, four arguments (string, int64, pointer to int64, int64), one bool back.
-/
import Derived.Test.Qxb6612212aWalk
import Derived.ProofKit
import Derived.ChangeOld
import Derived.Below
namespace Go.Proofs.Qxb6612212a
open Go.ChangeShapes Go.WideShapes Go.ChangeAt Go.RowKit
open Go.ChangeMaps (open_string shut_string)

theorem own : ownKnob Try.prog.godebug = none := by kernel_rfl
theorem Try.cells2 : Try.prog.cellsOf 2 = 1 := by kernel_rfl
theorem bounds_i64' {x : Int} (h : (Lit.int .i64 x).wf = true) : -9223372036854775808 ≤ x ∧ x ≤ 9223372036854775807 := by
  simp [Lit.wf, IntKind.min, IntKind.max, IntKind.signed, IntKind.bits] at h
  exact ⟨by omega, by omega⟩

set_option maxRecDepth 100000 in
theorem lifted (os : Os) (started : os.Started) (H : Type) (enc : TypeId × Value → H) :
    ReturnsInHanded {} Try.checked os 3 .any (Rows.fnGrossStepsByUnitPriceSpec.pre6 enc Try.prog Try.f3 Rows.fnGrossStepsByUnitPriceRow.domain false) (Rows.fnGrossStepsByUnitPriceSpec.post enc Try.prog Try.f3 false true false false) := by
  refine returnsInHanded_of_change (C := Try.checked) own started (by kernel_rfl) Try.func3
    (ChangeSpec.witness6 (enc := enc) (C := Try.checked) false ⟨#[], #[.string ByteArray.empty, .int .i64 0, .pointer none, .int .i64 0], []⟩ 8 (by kernel_rfl) (by kernel_rfl) (by kernel_rfl) (by kernel_rfl)) ?_
  intro W base args ds gs before hval0 hW hcnd _
  have hval : ∀ (j : Nat) t v, Try.f3.params[j]? = some t → args[j]? = some v → Value.okWide Try.prog W .any base t v := hval0
  have hW' := hW
  obtain ⟨p, q, hA0, hV, rfl, hfz, hnd⟩ := hW
  have hA : DataW.TrodAll enc Try.prog W 0 (fun _ => true) true Try.f3.params.toList args.toList ds p := hA0
  rw [Try.params3] at hA hval
  obtain ⟨v0, v1, v2, v3, d0, d1, d2, d3, p0, p1, p2, p3, rfl, rfl, rfl, h0, h1, h2, h3⟩ := trodAll_four hA
  obtain ⟨rfl, rfl⟩ := trodVars_none hV
  obtain ⟨s, rfl, rfl, rfl, hs⟩ := open_string Try.underlying9 (hval 0 9 v0 rfl rfl) h0
  obtain ⟨n, rfl, rfl, rfl, w1⟩ := open_int Try.underlying2 (hval 1 2 v1 rfl rfl) h1
  obtain ⟨m, rfl, rfl, rfl, w3⟩ := open_int Try.underlying2 (hval 3 2 v3 rfl rfl) h3
  rcases open_ptr_int Try.underlying22 Try.underlying2 Try.cells2 (hval 2 22 v2 rfl rfl) h2 with ⟨rfl, rfl, rfl⟩ | ⟨b, off, x, rfl, rfl, rfl, hcell, wn⟩
  · clear hA0 hval0
    refine (walk_nil s n m hs W).mono fun e W' ⟨he, hg⟩ => ?_
    subst he
    exact ⟨_, rfl, _, _, _, [], _, [], hW', trodAll_mk1 (shut_bool Try.underlying4 _), trodAll_mk4 (shut_string Try.underlying9 hs) (shut_int Try.underlying2 w1) (shut_ptr_nil Try.underlying22) (shut_int Try.underlying2 w3), rfl, hg.frame _, fun h => by cases h⟩
  · clear hA0 hval0
    obtain ⟨b1, b2⟩ := bounds_i64' wn
    refine (walk s n x m b off hs b1 b2 W hcell).mono fun e W' ⟨he, hg⟩ => ?_
    subst he
    exact ⟨_, rfl, _, _, _, [], _, [], hW', trodAll_mk1 (shut_bool Try.underlying4 _), trodAll_mk4 (shut_string Try.underlying9 hs) (shut_int Try.underlying2 w1) (shut_ptr_int Try.underlying22 Try.underlying2 Try.cells2 (Nat.zero_le _) (bcell hg hcell) wn) (shut_int Try.underlying2 w3), rfl, hg.frame _, fun h => by cases h⟩

theorem proved : Rows.FnGrossStepsByUnitPriceSaid :=
  OpenClaim.holds_of_wide 3 Try.f3 rfl rfl rfl rfl rfl rfl rfl ⟨rfl, rfl, rfl, rfl, rfl⟩ rfl rfl rfl rfl rfl (by kernel_rfl) Try.func3 (by kernel_rfl)
    (of_decide_eq_true (by kernel_rfl)) (by unfold Func.isWrapper; first | (rw [if_pos (by decide +kernel)]; kernel_rfl) | (rw [if_neg (by decide +kernel)]; exact ⟨rfl, rfl⟩))
    (fun os started H enc _ => lifted os started H enc)
end Go.Proofs.Qxb6612212a
