/-
  THE WALKS for 'FnGrossStepsByUnitPrice' (seat b6612212a), and the plain arithmetic.
-/
import Derived.Test.Qxb6612212aRows
import Derived.WalkKit
import Derived.WalkSpells
import Derived.BigQuiet
import Derived.WalkSmall
import Derived.Deep.QuietTactic
namespace Go.Proofs.Qxb6612212a
open Go.RowKit

/-! ### the plain law -/
theorem w64_one (p : Int) (h1 : -9223372036854775808 ≤ p) (h2 : p ≤ 9223372036854775807) : wrap64 p = p := by
  unfold wrap64; omega
theorem w64_sub (a b : Int) : wrap64 (wrap64 a - wrap64 b) = wrap64 (a - b) := by
  unfold wrap64; omega
theorem w64_neg (a : Int) : wrap64 (-(wrap64 a)) = wrap64 (-a) := by
  unfold wrap64; omega
theorem w64_dec (a : Int) : ∃ k : Int, wrap64 a = a + 18446744073709551616 * k := by
  unfold wrap64; exact ⟨-((a + 9223372036854775808) / 18446744073709551616), by omega⟩
theorem w64_add (a k : Int) : wrap64 (a + 18446744073709551616 * k) = wrap64 a := by
  unfold wrap64; omega
theorem w64_mul (a b : Int) : wrap64 (wrap64 a * b) = wrap64 (a * b) := by
  obtain ⟨k, hk⟩ := w64_dec a
  rw [hk, Int.add_mul, Int.mul_assoc, w64_add]
theorem step_law (q p : Int) (h1 : -9223372036854775808 ≤ p) (h2 : p ≤ 9223372036854775807) : wrap64 (wrap64 (wrap64 (q + 1) * p) - wrap64 (q * p)) = p := by
  rw [w64_mul, w64_sub]
  have : (q + 1) * p - q * p = p := by rw [Int.add_mul]; omega
  rw [this, w64_one p h1 h2]
theorem neg_law (q p : Int) : wrap64 (wrap64 (-q) * p) = wrap64 (-(wrap64 (q * p))) := by
  rw [w64_mul, w64_neg, Int.neg_mul]

/-! ### the callees -/
theorem bcell {W w1 : World} (hb : Below W.heap.size W w1) {b o : Nat} {v : Value} (h : W.cell? ⟨b, o, none⟩ = some v) : w1.cell? ⟨b, o, none⟩ = some v := by
  have hlt : b < W.heap.size := by
    false_or_by_contra
    rename_i hn
    have : W.heap[b]? = none := by simp; omega
    simp [World.cell?, this] at h
  rw [hb.cell (p := ⟨b, o, none⟩) hlt]; exact h

set_option maxHeartbeats 400000 in
theorem gross_any (s : ByteArray) (q p d : Int) (b off : Nat) (w : World) (hc : w.cell? ⟨b, off, none⟩ = some (.int .i64 p)) :
    Calls Try.prog 6 #[.agg #[.string s, .int .i64 q, .pointer (some ⟨b, off, none⟩), .int .i64 d]] w fun e w' =>
      e = .returned (.int .i64 (wrap64 (q * p))) ∧ Below w.heap.size w w' := by
  have hc' := bcell ((Below.refl w.heap.size w).alloc (Nat.le_refl _) (.cells #[.string s, .int .i64 q, .pointer (some ⟨b, off, none⟩), .int .i64 d] 26)) hc
  go_enter Try.func6, Try.ntmps6
  go_wp2
  go_quiet (fail)
  go_wp2
  go_ret
  exact ⟨rfl, below_drewN ((Below.refl _ _).alloc (Nat.le_refl _) _) _⟩

theorem zzgross_any (s : ByteArray) (q p d : Int) (b off : Nat) (w : World) (hc : w.cell? ⟨b, off, none⟩ = some (.int .i64 p)) :
    Calls Try.prog 5 #[.agg #[.string s, .int .i64 q, .pointer (some ⟨b, off, none⟩), .int .i64 d]] w fun e w' =>
      e = .returned (.int .i64 (wrap64 (q * p))) ∧ Below w.heap.size w w' := by
  have hc' := bcell ((Below.refl w.heap.size w).alloc (Nat.le_refl _) (.cells #[.string s, .int .i64 q, .pointer (some ⟨b, off, none⟩), .int .i64 d] 26)) hc
  go_enter Try.func5, Try.ntmps5
  go_wp2_with (go_at_call 6; refine (gross_any s q p d b off _ hc').mono ?_; rintro e w' ⟨rfl, hb⟩)
  go_ret
  exact ⟨rfl, ((Below.refl _ _).alloc (Nat.le_refl _) _).trans (hb.mono (by simp))⟩

theorem bytes_any (s : ByteArray) (q d : Int) (v : Value) (w : World) (h : ¬ 1048576 < (s.size : Int)) :
    Calls Try.prog 4 #[.string s, .int .i64 q, v, .int .i64 d] w fun e w' => e = .returned (.bool true) ∧ w = w' := by
  go_enter Try.func4, Try.ntmps4
  go_wp2
  go_ret
  exact ⟨rfl, rfl⟩

set_option maxHeartbeats 1000000 in
theorem walk_nil (s : ByteArray) (q d : Int) (hs : s.size ≤ maxLen) (w : World) :
    Calls Try.prog 3 #[.string s, .int .i64 q, .pointer none, .int .i64 d] w fun e w' => e = .returned (.bool true) ∧ Below w.heap.size w w' := by
  unfold maxLen at hs
  by_cases h : 1048576 < (s.size : Int)
  · go_enter Try.func3, Try.ntmps3
    go_wp2
    go_ret
    exact ⟨rfl, Below.refl _ _⟩
  · go_enter Try.func3, Try.ntmps3
    go_wp2
    go_ret
    exact ⟨rfl, Below.refl _ _⟩

set_option maxHeartbeats 1000000 in
theorem walk (s : ByteArray) (q p d : Int) (b off : Nat) (hs : s.size ≤ maxLen) (h1 : -9223372036854775808 ≤ p) (h2 : p ≤ 9223372036854775807) (w : World) (hc : w.cell? ⟨b, off, none⟩ = some (.int .i64 p)) :
    Calls Try.prog 3 #[.string s, .int .i64 q, .pointer (some ⟨b, off, none⟩), .int .i64 d] w fun e w' => e = .returned (.bool true) ∧ Below w.heap.size w w' := by
  unfold maxLen at hs
  by_cases h : 1048576 < (s.size : Int)
  · go_enter Try.func3, Try.ntmps3
    go_wp2
    go_ret
    exact ⟨rfl, Below.refl _ _⟩
  · have e1 : wrap64 (1 * p) = p := by rw [Int.one_mul, w64_one p h1 h2]
    have e0 : wrap64 (0 * p) = 0 := by rw [Int.zero_mul]; unfold wrap64; omega
    have E1 : Hid (wrap64 (1 * p) = p) := e1
    have E0 : Hid (wrap64 (0 * p) = 0) := e0
    have ES : Hid (wrap64 (wrap64 (wrap64 (q + 1) * p) - wrap64 (q * p)) = p) := step_law q p h1 h2
    have EN : Hid (wrap64 (wrap64 (-q) * p) = wrap64 (-(wrap64 (q * p)))) := neg_law q p
    clear e1 e0
    go_enter Try.func3, Try.ntmps3
    go_wp2_with (go_at_call 4; refine (bytes_any s q d _ _ (by omega)).mono ?_; rintro e w' ⟨rfl, rfl⟩)
    go_wp2_with fail
    refine (zzgross_any s q p d b off _ hc).mono ?_
    rintro e w1 ⟨rfl, k1⟩
    have hc1 := bcell k1 hc
    go_wp2_with fail
    refine (zzgross_any s _ p d b off _ hc1).mono ?_
    rintro e w2 ⟨rfl, k2⟩
    have hc2 := bcell k2 hc1
    go_wp2_with fail
    refine (zzgross_any s _ p d b off _ hc2).mono ?_
    rintro e w3 ⟨rfl, k3⟩
    have hc3 := bcell k3 hc2
    rw [E0.out]
    go_wp2_with fail
    refine (zzgross_any s _ p d b off _ hc3).mono ?_
    rintro e w4 ⟨rfl, k4⟩
    have hc4 := bcell k4 hc3
    rw [E1.out]
    go_wp2_with fail
    refine (zzgross_any s _ p d b off _ hc4).mono ?_
    rintro e w5 ⟨rfl, k5⟩
    have hc5 := bcell k5 hc4
    go_wp2_with fail
    refine (zzgross_any _ _ p _ b off _ hc5).mono ?_
    rintro e w6 ⟨rfl, k6⟩
    have es := ES.out
    have en := EN.out
    rw [en]
    clear en hc hc1 hc2 hc3 hc4 hc5
    have B1 : Hid (Below w.heap.size w w6) := (((((k1.trans (k2.mono k1.size)).trans (k3.mono (Nat.le_trans k1.size k2.size))).trans (k4.mono (Nat.le_trans k1.size (Nat.le_trans k2.size k3.size)))).trans (k5.mono (Nat.le_trans k1.size (Nat.le_trans k2.size (Nat.le_trans k3.size k4.size))))).trans (k6.mono (Nat.le_trans k1.size (Nat.le_trans k2.size (Nat.le_trans k3.size (Nat.le_trans k4.size k5.size))))))
    clear k1 k2 k3 k4 k5 k6
    go_wp2
    go_ret
    exact ⟨rfl, B1.out⟩
end Go.Proofs.Qxb6612212a
