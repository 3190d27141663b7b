/-
  WALKS for seat b6612180aD: ZZb1NewDecimal, Round.
-/
import Derived.Test.Qxb6612180aDoorWalkA
import Derived.Deep.Cut
import Derived.Deep.DeepCutAuto
set_option linter.unusedSimpArgs false
namespace Go.Proofs.Qxb6612180aDoor
open Go.RowKit

theorem bcell {W w1 : World} (hb : Below W.heap.size W w1) {b o : Nat} {v : Value} (h : W.cell? ⟨b, o, none⟩ = some v) : w1.cell? ⟨b, o, none⟩ = some v := by
  have hlt : b < W.heap.size := by
    false_or_by_contra
    rename_i hn
    have : W.heap[b]? = none := by simp; omega
    simp [World.cell?, this] at h
  rw [hb.cell (p := ⟨b, o, none⟩) hlt]; exact h

theorem newDecimal_any (c s : Int) (w : World) :
    Calls Tryd.prog 6 #[.int .i64 c, .int .i64 s] w fun e w' => e = .returned (.agg #[.int .i64 c, .int .i64 s]) ∧ Below w.heap.size w w' := by
  go_enter Tryd.func6, Tryd.ntmps6
  go_wp2
  exact bodyPost_ret (v := .agg #[.int .i64 c, .int .i64 s]) (by simp [results, Tryd.results6, go_sem]) rfl ⟨rfl, (Below.refl _ _).alloc (Nat.le_refl _) _⟩

theorem round_ge (c : Int) (s p : Nat) (w : World) (hp : p ≤ 65536) (hge : s ≤ p) :
    Calls Tryd.prog 9 #[.agg #[.int .i64 c, .int .i64 s], .int .i64 p] w fun e w' => e = .returned (.agg #[.int .i64 c, .int .i64 s]) ∧ Below w.heap.size w w' := by
  have h1 : ¬ (p : Int) < 0 := by omega
  go_enter Tryd.func9, Tryd.ntmps9
  go_wp2
  exact bodyPost_ret (v := .agg #[.int .i64 c, .int .i64 s]) (by simp [results, Tryd.results9, go_sem]) rfl ⟨rfl, ((Below.refl _ _).alloc (Nat.le_refl _) _).alloc (by simp) _⟩

/-- What Round makes of the coefficient at the unit U. -/
def rc (c : Int) (U : Nat) : Int := c.tdiv U + (if (U : Int) ≤ 2 * ((c.tmod U).natAbs : Int) then sgn c else 0)

theorem tdiv_pos (c : Int) (U : Nat) (h : 0 ≤ c) : c.tdiv U = ((c.natAbs / U : Nat) : Int) ∧ c.tmod U = ((c.natAbs % U : Nat) : Int) := by
  obtain ⟨m, rfl⟩ := Int.eq_ofNat_of_zero_le h
  constructor
  · rw [Int.tdiv_eq_ediv_of_nonneg h]; simp
  · rw [Int.tmod_eq_emod_of_nonneg h]; simp
theorem tdiv_neg (c : Int) (U : Nat) (h : c < 0) : c.tdiv U = -((c.natAbs / U : Nat) : Int) ∧ c.tmod U = -((c.natAbs % U : Nat) : Int) := by
  have h' : 0 ≤ -c := by omega
  have := tdiv_pos (-c) U h'
  rw [Int.neg_tdiv, Int.neg_tmod, Int.natAbs_neg] at this
  omega

def rabs (m U : Nat) : Nat := m / U + (if U ≤ 2 * (m % U) then 1 else 0)
theorem rc_pos (c : Int) (U : Nat) (h : 0 ≤ c) (hU : 0 < U) : rc c U = (rabs c.natAbs U : Int) := by
  obtain ⟨e1, e2⟩ := tdiv_pos c U h
  unfold rc rabs
  rw [e1, e2]
  by_cases hr : U ≤ 2 * (c.natAbs % U)
  · have hc : c ≠ 0 := by
      intro h0; rw [h0] at hr; simp at hr; omega
    rw [if_pos (by simp; omega), if_pos hr]
    unfold sgn; rw [if_neg (by omega), if_pos (by omega)]; omega
  · rw [if_neg (by simp; omega), if_neg hr]; omega
theorem rc_neg (c : Int) (U : Nat) (h : c < 0) : rc c U = -(rabs c.natAbs U : Int) := by
  obtain ⟨e1, e2⟩ := tdiv_neg c U h
  unfold rc rabs
  rw [e1, e2]
  by_cases hr : U ≤ 2 * (c.natAbs % U)
  · rw [if_pos (by simp; omega), if_pos hr]
    unfold sgn; rw [if_pos h]; omega
  · rw [if_neg (by simp; omega), if_neg hr]; omega
theorem tdiv_bounds (c : Int) (U : Nat) (hU : 0 < U) : -(c.natAbs : Int) ≤ c.tdiv U ∧ c.tdiv U ≤ (c.natAbs : Int) ∧ -(U : Int) < c.tmod U ∧ c.tmod U < (U : Int) := by
  have h1 : c.natAbs / U ≤ c.natAbs := Nat.div_le_self _ _
  have h2 : c.natAbs % U < U := Nat.mod_lt _ hU
  by_cases h : c < 0
  · obtain ⟨e1, e2⟩ := tdiv_neg c U h
    rw [e1, e2]
    generalize c.natAbs / U = a at *
    generalize c.natAbs % U = b at *
    omega
  · obtain ⟨e1, e2⟩ := tdiv_pos c U (by omega)
    rw [e1, e2]
    generalize c.natAbs / U = a at *
    generalize c.natAbs % U = b at *
    omega
theorem sgn_bounds (c : Int) : -1 ≤ sgn c ∧ sgn c ≤ 1 := by
  unfold sgn; split
  · omega
  · split <;> omega

set_option maxHeartbeats 3200000 in
theorem round_lt (c : Int) (U s p : Nat) (w : World) (h1 : -1000000000000000000 < c) (h2 : c < 1000000000000000000) (hs : s ≤ 18) (hlt : p < s) (hU : 0 < U) (hU2 : U ≤ 1000000000000000000)
    (hcell : w.cell? ⟨0, s - p, none⟩ = some (.int .i64 U)) :
    Calls Tryd.prog 9 #[.agg #[.int .i64 c, .int .i64 s], .int .i64 p] w fun e w' => ∃ (c2 : Int) (p2 j : Nat), e = .returned (.agg #[.int .i64 c2, .int .i64 p2]) ∧ p2 + j = p ∧ c2 * 10 ^ j = rc c U ∧ Below w.heap.size w w' := by
  have hp0 : ¬ (p : Int) < 0 := by omega
  have hcell2 := bcell (((Below.refl w.heap.size w).alloc (Nat.le_refl _) (.cells #[.int .i64 c, .int .i64 s] 24)).alloc (by simp) (.cells #[.int .i64 0, .int .i64 0] 24)) hcell
  have hb0 : ∀ a b q, Below w.heap.size w (((w.alloc (.cells #[.int .i64 c, .int .i64 s] 24)).alloc (.cells #[a, b] 24)).drewN q) := fun a b q => below_drewN (((Below.refl w.heap.size w).alloc (Nat.le_refl _) _).alloc (by simp) _) q
  clear hcell
  obtain ⟨b1, b2, b3, b4⟩ := tdiv_bounds c U hU
  obtain ⟨s1, s2⟩ := sgn_bounds c
  have hUne : ((U : Int) == 0) = false := by simp; omega
  have hUI : (0 : Int) < (U : Int) := by omega
  have hmi : (((c.tmod U).natAbs : Nat) : Int) = (c.natAbs : Int) % (U : Int) := by rw [Int.natAbs_tmod]; simp
  have hm1 : 0 ≤ (c.natAbs : Int) % (U : Int) := by omega
  have hm2 : (c.natAbs : Int) % (U : Int) < (U : Int) := Int.emod_lt_of_pos _ hUI
  by_cases hr : (U : Int) ≤ 2 * ((c.natAbs : Int) % (U : Int))
  · have HRC : Hid (c.tdiv U + sgn c = rc c U) := by show _ = _; unfold rc; rw [hmi, if_pos hr]
    clear hmi
    go_enter Tryd.func9, Tryd.ntmps9
    go_wp2
    go_quiet (fail)
    go_wp2_with (first
      | (go_at_call 18; refine (magnitude_any _ _ (by omega) (by omega)).mono ?_; rintro e w' ⟨rfl, rfl⟩)
      | (go_at_call 19; refine (compare_any _ _).mono ?_; rintro e w' ⟨rfl, rfl⟩))
    go_loopw [1, 6] (fun x y wr => ∃ (c2 : Int) (p2 j : Nat), p2 + j = p ∧ x = .int .i64 p2 ∧ y = .int .i64 c2 ∧ -1000000000000000001 ≤ c2 ∧ c2 ≤ 1000000000000000001 ∧ Hid (c2 * 10 ^ j = rc c U) ∧ wr = ((w.alloc (.cells #[.int .i64 c, .int .i64 s] 24)).alloc (.cells #[.int .i64 0, .int .i64 0] 24)).drewN nq) (fun x _ _ => (intOf x).toNat)
    case atStart => exact ⟨c.tdiv U + sgn c, p, 0, rfl, rfl, rfl, by omega, by omega, by show _ = _; rw [Int.pow_zero, Int.mul_one]; exact HRC.out, rfl⟩
    case round =>
      obtain ⟨c2, p2, j, hpj, rfl, rfl, hc1, hc2, hmul, rfl⟩ := hrel
      by_cases hp2 : p2 = 0
      · subst hp2
        go_wp2
        exact bodyPost_ret (v := .agg #[.int .i64 c2, .int .i64 0]) (by simp [results, Tryd.results9, go_sem]) rfl ⟨c2, 0, j, rfl, hpj, hmul.out, ((hb0 (.int .i64 0) (.int .i64 0) nq).setCell (Nat.le_succ _) _).setCell (Nat.le_succ _) _⟩
      · obtain ⟨p3, rfl⟩ : ∃ p3, p2 = p3 + 1 := ⟨p2 - 1, by omega⟩
        have hpos : (0 : Int) < ((p3 : Nat) : Int) + 1 := by omega
        cases h10 : (c2.tmod 10 == 0) with
        | true =>
          have hdiv : c2.tdiv 10 * 10 = c2 := by
            have e := Int.mul_tdiv_add_tmod c2 10
            simp at h10
            omega
          have HD : Hid (c2.tdiv 10 * 10 ^ (j + 1) = rc c U) := by
            show _ = _
            rw [Int.pow_succ, Int.mul_comm (10 ^ j) 10, ← Int.mul_assoc, hdiv]; exact hmul.out
          have hd1 : -1000000000000000001 ≤ c2.tdiv 10 := by omega
          have hd2 : c2.tdiv 10 ≤ 1000000000000000001 := by omega
          clear hdiv hmul
          go_wp2
          go_roundw
          case rel => exact ⟨c2.tdiv 10, p3, j + 1, by omega, by go_num, by first | rfl | go_num, hd1, hd2, HD, by first | trivial | rfl⟩
          case measure => simp [intOf]
        | false =>
          go_wp2
          exact bodyPost_ret (v := .agg #[.int .i64 c2, .int .i64 ((p3 : Int) + 1)]) (by simp [results, Tryd.results9, go_sem]) rfl ⟨c2, p3 + 1, j, rfl, hpj, hmul.out, ((hb0 (.int .i64 0) (.int .i64 0) nq).setCell (Nat.le_succ _) _).setCell (Nat.le_succ _) _⟩
  · have HRC : Hid (c.tdiv U = rc c U) := by show _ = _; unfold rc; rw [hmi, if_neg hr, Int.add_zero]
    clear hmi
    go_enter Tryd.func9, Tryd.ntmps9
    go_wp2
    go_quiet (fail)
    go_wp2_with (first
      | (go_at_call 18; refine (magnitude_any _ _ (by omega) (by omega)).mono ?_; rintro e w' ⟨rfl, rfl⟩)
      | (go_at_call 19; refine (compare_any _ _).mono ?_; rintro e w' ⟨rfl, rfl⟩))
    go_loopw [1, 6] (fun x y wr => ∃ (c2 : Int) (p2 j : Nat), p2 + j = p ∧ x = .int .i64 p2 ∧ y = .int .i64 c2 ∧ -1000000000000000001 ≤ c2 ∧ c2 ≤ 1000000000000000001 ∧ Hid (c2 * 10 ^ j = rc c U) ∧ wr = ((w.alloc (.cells #[.int .i64 c, .int .i64 s] 24)).alloc (.cells #[.int .i64 0, .int .i64 0] 24)).drewN nq) (fun x _ _ => (intOf x).toNat)
    case atStart => exact ⟨c.tdiv U, p, 0, rfl, rfl, rfl, by omega, by omega, by show _ = _; rw [Int.pow_zero, Int.mul_one]; exact HRC.out, rfl⟩
    case round =>
      obtain ⟨c2, p2, j, hpj, rfl, rfl, hc1, hc2, hmul, rfl⟩ := hrel
      by_cases hp2 : p2 = 0
      · subst hp2
        go_wp2
        exact bodyPost_ret (v := .agg #[.int .i64 c2, .int .i64 0]) (by simp [results, Tryd.results9, go_sem]) rfl ⟨c2, 0, j, rfl, hpj, hmul.out, ((hb0 (.int .i64 0) (.int .i64 0) nq).setCell (Nat.le_succ _) _).setCell (Nat.le_succ _) _⟩
      · obtain ⟨p3, rfl⟩ : ∃ p3, p2 = p3 + 1 := ⟨p2 - 1, by omega⟩
        have hpos : (0 : Int) < ((p3 : Nat) : Int) + 1 := by omega
        cases h10 : (c2.tmod 10 == 0) with
        | true =>
          have hdiv : c2.tdiv 10 * 10 = c2 := by
            have e := Int.mul_tdiv_add_tmod c2 10
            simp at h10
            omega
          have HD : Hid (c2.tdiv 10 * 10 ^ (j + 1) = rc c U) := by
            show _ = _
            rw [Int.pow_succ, Int.mul_comm (10 ^ j) 10, ← Int.mul_assoc, hdiv]; exact hmul.out
          have hd1 : -1000000000000000001 ≤ c2.tdiv 10 := by omega
          have hd2 : c2.tdiv 10 ≤ 1000000000000000001 := by omega
          clear hdiv hmul
          go_wp2
          go_roundw
          case rel => exact ⟨c2.tdiv 10, p3, j + 1, by omega, by go_num, by first | rfl | go_num, hd1, hd2, HD, by first | trivial | rfl⟩
          case measure => simp [intOf]
        | false =>
          go_wp2
          exact bodyPost_ret (v := .agg #[.int .i64 c2, .int .i64 ((p3 : Int) + 1)]) (by simp [results, Tryd.results9, go_sem]) rfl ⟨c2, p3 + 1, j, rfl, hpj, hmul.out, ((hb0 (.int .i64 0) (.int .i64 0) nq).setCell (Nat.le_succ _) _).setCell (Nat.le_succ _) _⟩
end Go.Proofs.Qxb6612180aDoor
