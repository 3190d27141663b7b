/-
  WALKS for seat b6612180aD: the small functions, zzbUtoa.
-/
import Derived.Test.Qxb6612180aDoorMem
namespace Go.Proofs.Qxb6612180aDoor
open Go.RowKit

theorem ret_int {k : IntKind} {a b : Int} (h : a = b) : Ending.returned (.int k a) = .returned (.int k b) := by rw [h]
theorem u64_wrap (x : Int) : IntKind.u64.wrap x = x % 18446744073709551616 := by
  simp [IntKind.wrap, IntKind.signed, IntKind.bits]
theorem mag_any (x : Int) (w : World) (h1 : -1000000000000000000 < x) (h2 : x < 1000000000000000000) :
    Calls Tryd.prog 14 #[.int .i64 x] w fun e w' => e = .returned (.int .u64 (x.natAbs : Int)) ∧ w = w' := by
  by_cases hx : x < 0
  · go_enter Tryd.func14, Tryd.ntmps14
    go_wp2
    go_ret
    exact ⟨ret_int (by rw [u64_wrap, u64_wrap]; omega), rfl⟩
  · go_enter Tryd.func14, Tryd.ntmps14
    go_wp2
    go_ret
    exact ⟨ret_int (by omega), rfl⟩
theorem magnitude_any (x : Int) (w : World) (h1 : -1000000000000000000 < x) (h2 : x < 1000000000000000000) :
    Calls Tryd.prog 18 #[.int .i64 x] w fun e w' => e = .returned (.int .u64 (x.natAbs : Int)) ∧ w = w' := by
  by_cases hx : x < 0
  · go_enter Tryd.func18, Tryd.ntmps18
    go_wp2
    go_ret
    exact ⟨ret_int (by omega), rfl⟩
  · go_enter Tryd.func18, Tryd.ntmps18
    go_wp2
    go_ret
    exact ⟨ret_int (by omega), rfl⟩
def sgn (x : Int) : Int := if x < 0 then -1 else if 0 < x then 1 else 0
theorem compare_any (x : Int) (w : World) :
    Calls Tryd.prog 19 #[.int .i64 x, .int .i64 0] w fun e w' => e = .returned (.int .i64 (sgn x)) ∧ w = w' := by
  rcases Int.lt_trichotomy x 0 with h | h | h
  · have E : Hid (sgn x = -1) := by show _ = _; simp [sgn, h]
    rw [E.out]
    go_enter Tryd.func19, Tryd.ntmps19
    go_wp2
    go_ret
    exact ⟨rfl, rfl⟩
  · subst h
    go_enter Tryd.func19, Tryd.ntmps19
    go_wp2
    go_ret
    exact ⟨rfl, rfl⟩
  · have E : Hid (sgn x = 1) := by show _ = _; unfold sgn; rw [if_neg (by omega), if_pos h]
    rw [E.out]
    go_enter Tryd.func19, Tryd.ntmps19
    go_wp2
    go_ret
    exact ⟨rfl, rfl⟩

/-- The states that zzbUnitOK lets by. -/
def unitB (c s : Int) : Bool := decide (0 ≤ s) && decide (s ≤ 18) && decide (-1000000000000000000 < c) && decide (c < 1000000000000000000) && !(decide (0 < s) && c.tmod 10 == 0)
theorem unit_any (c s : Int) (w : World) :
    Calls Tryd.prog 5 #[.int .i64 c, .int .i64 s] w fun e w' => e = .returned (.bool (unitB c s)) ∧ w = w' := by
  by_cases h1 : s < 0
  · have E : Hid (unitB c s = false) := by show _ = _; simp [unitB]; omega
    rw [E.out]
    go_enter Tryd.func5, Tryd.ntmps5
    go_wp2
    go_ret
    exact ⟨rfl, rfl⟩
  by_cases h2 : 18 < s
  · have E : Hid (unitB c s = false) := by show _ = _; simp [unitB]; omega
    rw [E.out]
    go_enter Tryd.func5, Tryd.ntmps5
    go_wp2
    go_ret
    exact ⟨rfl, rfl⟩
  by_cases h3 : c ≤ -1000000000000000000
  · have E : Hid (unitB c s = false) := by show _ = _; simp [unitB]; omega
    rw [E.out]
    go_enter Tryd.func5, Tryd.ntmps5
    go_wp2
    go_ret
    exact ⟨rfl, rfl⟩
  by_cases h4 : 1000000000000000000 ≤ c
  · have E : Hid (unitB c s = false) := by show _ = _; simp [unitB]; omega
    rw [E.out]
    go_enter Tryd.func5, Tryd.ntmps5
    go_wp2
    go_ret
    exact ⟨rfl, rfl⟩
  by_cases h5 : 0 < s
  · cases h6 : (c.tmod 10 == 0) with
    | true =>
      have E : Hid (unitB c s = false) := by show _ = _; simp [unitB, h5, h6]
      rw [E.out]
      go_enter Tryd.func5, Tryd.ntmps5
      go_wp2
      go_ret
      exact ⟨rfl, rfl⟩
    | false =>
      have E : Hid (unitB c s = true) := by show _ = _; simp [unitB, h6]; omega
      rw [E.out]
      go_enter Tryd.func5, Tryd.ntmps5
      go_wp2
      go_ret
      exact ⟨rfl, rfl⟩
  · have E : Hid (unitB c s = true) := by show _ = _; simp [unitB, h5]; omega
    rw [E.out]
    go_enter Tryd.func5, Tryd.ntmps5
    go_wp2
    go_ret
    exact ⟨rfl, rfl⟩
end Go.Proofs.Qxb6612180aDoor
