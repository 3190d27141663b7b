/-
  WALKS for seat b6612230a: token, ZZtoken: strings.FieldsFunc and strings.Join by the shelf's contracts.
-/
import Derived.Test.Qxb6612230aWalkE
import Derived.Test.Qxb6612230aFields
import Derived.Test.Qxb6612230aShelf
namespace Go.Proofs.Qxb6612230a
open Go.RowKit Go.Lib

theorem enters15 : ∀ (args : Array Value) (w : World), (callFunc 15 args).run Try.prog w = .ok (.enter 15 args) w := enters_of Try.func15 (by kernel_rfl) rfl

theorem pred15 (w : World) : PredAt Try.prog 15 #[] encR spN w := by
  intro W x _
  refine (xml_any (x : Int) W).mono ?_
  rintro e w' ⟨rfl, rfl⟩
  exact ⟨by rw [spI_nat], 0, rfl⟩

theorem fold_count : ∀ (l : List UInt8) (x : List (List UInt8) × Option (List UInt8)), (fieldsOf (l.foldl fstep x)).length ≤ (fieldsOf x).length + l.length
  | [], x => by simp
  | c :: r, x => by
    have ih := fold_count r (fstep x c)
    have h1 : (fieldsOf (fstep x c)).length ≤ (fieldsOf x).length + 1 := by
      obtain ⟨xs, cur⟩ := x
      unfold fstep fieldsOf
      cases sp c <;> cases cur <;> simp
    simp only [List.foldl_cons, List.length_cons]
    omega
theorem fields_count (s : ByteArray) : (goFieldsP spN s).length ≤ s.size := by
  have h := fold_count s.data.toList ([], none)
  have e : (goFieldsP spN s).length = (fields s.data.toList).length := by rw [← goFields_eq, List.length_map]
  rw [e]
  unfold fields
  simpa [fieldsOf] using h

set_option maxHeartbeats 800000 in
theorem token_any (s : ByteArray) (w : World) (hs : s.size ≤ 1048576) :
    Calls Try.prog 11 #[.string s] w fun e w' => e = .returned (.string ⟨(tm s.data.toList).toArray⟩) ∧ Below w.heap.size w w' := by
  have hl : (tm s.data.toList).length ≤ s.size := by have := tm_len s.data.toList; simpa using this
  have HJ : Hid (Lib.join ((goFieldsP spN s).map (·.data.toList)) (⟨#[32]⟩ : ByteArray).data.toList = tm s.data.toList) := token_eq s
  have hcnt := fields_count s
  go_enter Try.func11, Try.ntmps11
  go_wp2_with fail
  refine (Try.strings_FieldsFunc 15 #[] enters15 spN s _ (by omega) (pred15 _)).mono ?_
  rintro e w1 ⟨A, rfl, hA, hown, hb1⟩
  have hcells : ∀ (j : Nat) x, (goFieldsP spN s)[j]? = some x → w1.cell? ⟨A, 0 + j, none⟩ = some (.string x) := by
    intro j x hj
    have hj' := (List.getElem?_eq_some_iff.1 hj).1
    rw [Nat.zero_add, hown.cellAt j (by omega), List.getElem?_map, hj]
    rfl
  have hAl : A < w1.heap.size := (hown.lt A rfl).2
  have HO := hown
  clear hown
  go_wp2_with fail
  refine (Try.strings_Join A 0 _ (goFieldsP spN s) ⟨#[32]⟩ _ hcells hAl (by omega) (Nat.le_refl _) (by rw [HJ.out]; omega)).mono ?_
  rintro e w2 ⟨rfl, hb2⟩
  rw [HJ.out]
  have hb := hb1.trans (hb2.mono hb1.size)
  clear hcells HO
  go_wp2
  go_ret
  exact ⟨rfl, hb⟩

theorem zztoken : TokenSaid := by
  intro s w hs
  go_enter Try.func6, Try.ntmps6
  go_wp2_with (go_at_call 11; refine (token_any s _ hs).mono ?_; rintro e w' ⟨rfl, hb⟩)
  go_ret
  exact ⟨rfl, hb⟩
end Go.Proofs.Qxb6612230a
