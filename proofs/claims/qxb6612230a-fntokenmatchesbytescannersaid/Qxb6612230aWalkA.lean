/-
  WALKS for seat b6612230a: the small functions (zzSpaceByte, isXMLSpace, zzBytes_..) and zzTokenModel.
-/
import Derived.Test.Qxb6612230aRows
import Derived.Test.Qxb6612230aPlain
import Derived.WalkKit
import Derived.WalkSpells
import Derived.WalkSmall
import Derived.BigQuiet
namespace Go.Proofs.Qxb6612230a
open Go.RowKit

def spI (x : Int) : Bool := x == 32 || x == 9 || x == 13 || x == 10
theorem spI_nat (n : Nat) : spI (n : Int) = spN n := by
  rw [Bool.eq_iff_iff]; simp [spI, spN]; omega
theorem spI_byte (c : UInt8) : spI (c.toNat : Int) = sp c := spI_nat _

theorem space_any (x : Int) (w : World) :
    Calls Try.prog 12 #[.int .u8 x] w fun e w' => e = .returned (.bool (spI x)) ∧ w = w' := by
  by_cases h1 : x = 32
  · subst h1
    go_enter Try.func12, Try.ntmps12
    go_wp2
    go_ret
    exact ⟨rfl, rfl⟩
  by_cases h2 : x = 9
  · subst h2
    go_enter Try.func12, Try.ntmps12
    go_wp2
    go_ret
    exact ⟨rfl, rfl⟩
  by_cases h3 : x = 13
  · subst h3
    go_enter Try.func12, Try.ntmps12
    go_wp2
    go_ret
    exact ⟨rfl, rfl⟩
  by_cases h4 : x = 10
  · subst h4
    go_enter Try.func12, Try.ntmps12
    go_wp2
    go_ret
    exact ⟨rfl, rfl⟩
  have e1 : (x == 32) = false := by simpa using h1
  have e2 : (x == 9) = false := by simpa using h2
  have e3 : (x == 13) = false := by simpa using h3
  have e4 : (x == 10) = false := by simpa using h4
  have HF : Hid (spI x = false) := by show spI x = false; simp [spI, e1, e2, e3, e4]
  rw [HF.out]
  clear h1 h2 h3 h4
  go_enter Try.func12, Try.ntmps12
  go_wp2
  go_ret
  exact ⟨rfl, rfl⟩

theorem xml_any (x : Int) (w : World) :
    Calls Try.prog 15 #[.int .i32 x] w fun e w' => e = .returned (.bool (spI x)) ∧ w = w' := by
  by_cases h1 : x = 32
  · subst h1
    go_enter Try.func15, Try.ntmps15
    go_wp2
    go_ret
    exact ⟨rfl, rfl⟩
  by_cases h2 : x = 9
  · subst h2
    go_enter Try.func15, Try.ntmps15
    go_wp2
    go_ret
    exact ⟨rfl, rfl⟩
  by_cases h3 : x = 13
  · subst h3
    go_enter Try.func15, Try.ntmps15
    go_wp2
    go_ret
    exact ⟨rfl, rfl⟩
  by_cases h4 : x = 10
  · subst h4
    go_enter Try.func15, Try.ntmps15
    go_wp2
    go_ret
    exact ⟨rfl, rfl⟩
  have e1 : (x == 32) = false := by simpa using h1
  have e2 : (x == 9) = false := by simpa using h2
  have e3 : (x == 13) = false := by simpa using h3
  have e4 : (x == 10) = false := by simpa using h4
  have HF : Hid (spI x = false) := by show spI x = false; simp [spI, e1, e2, e3, e4]
  rw [HF.out]
  clear h1 h2 h3 h4
  go_enter Try.func15, Try.ntmps15
  go_wp2
  go_ret
  exact ⟨rfl, rfl⟩

theorem bytesA_any (s : ByteArray) (w : World) (h : ¬ 1048576 < (s.size : Int)) :
    Calls Try.prog 5 #[.string s] w fun e w' => e = .returned (.bool true) ∧ w = w' := by
  go_enter Try.func5, Try.ntmps5
  go_wp2
  go_ret
  exact ⟨rfl, rfl⟩
theorem bytesA_no (s : ByteArray) (w : World) (h : 1048576 < (s.size : Int)) :
    Calls Try.prog 5 #[.string s] w fun e w' => e = .returned (.bool false) ∧ w = w' := by
  go_enter Try.func5, Try.ntmps5
  go_wp2
  go_ret
  exact ⟨rfl, rfl⟩
theorem bytesB_any (s : ByteArray) (w : World) (h : ¬ 1048576 < (s.size : Int)) :
    Calls Try.prog 8 #[.string s] w fun e w' => e = .returned (.bool true) ∧ w = w' := by
  go_enter Try.func8, Try.ntmps8
  go_wp2
  go_ret
  exact ⟨rfl, rfl⟩
theorem bytesB_no (s : ByteArray) (w : World) (h : 1048576 < (s.size : Int)) :
    Calls Try.prog 8 #[.string s] w fun e w' => e = .returned (.bool false) ∧ w = w' := by
  go_enter Try.func8, Try.ntmps8
  go_wp2
  go_ret
  exact ⟨rfl, rfl⟩
end Go.Proofs.Qxb6612230a
