/-
  WALKS for seat b6612180aD: Format and the law.
-/
import Derived.Test.Qxb6612180aDoorWalkI
import Derived.Test.Qxb6612180aDoorWalkE
set_option linter.unusedVariables false
set_option linter.unusedSimpArgs false
namespace Go.Proofs.Qxb6612180aDoor
open Go.RowKit

/-- The program's table pow10. -/
def PowIs (w : World) : Prop := ∀ i, i ≤ 18 → w.cell? ⟨0, i, none⟩ = some (.int .i64 ((10 ^ i : Nat) : Int))
theorem PowIs.below {w w' : World} (h : PowIs w) (hb : Below w.heap.size w w') : PowIs w' := fun i hi => bcell hb (h i hi)

theorem pow_le18 (k : Nat) (h : k ≤ 18) : 10 ^ k ≤ 1000000000000000000 := by
  have : (10 : Nat) ^ k ≤ 10 ^ 18 := Nat.pow_le_pow_right (by decide) h
  have e : (10 : Nat) ^ 18 = 1000000000000000000 := by decide
  omega

theorem text_out (c : Int) (s p L : Nat) (hf : Fit s c.natAbs L) (hs : s ≤ p) : textS c s p L = outStr (decide (c < 0)) p (L + (p - s)) (c.natAbs * 10 ^ (p - s)) := by
  rw [← text_eq (decide (c < 0)) s c.natAbs L p hf hs]
  unfold textS
  have e : (decide (c < 0) && c.natAbs != 0) = decide (c < 0) := by
    rw [Bool.eq_iff_iff]; simp; omega
  rw [e]
  simp

/-- What Format writes. -/
structure FmtIs (c : Int) (s p : Nat) (l : List UInt8) : Prop where
  ex : ∃ L, Fit p (Qf c.natAbs s p) L ∧ l = outStr (decide (c < 0)) p L (Qf c.natAbs s p)

theorem fmt_unique {c : Int} {s p : Nat} {l l' : List UInt8} (h : FmtIs c s p l) (h' : FmtIs c s p l') : l = l' := by
  obtain ⟨L, hf, rfl⟩ := h.ex
  obtain ⟨L', hf', rfl⟩ := h'.ex
  rw [fit_unique hf hf']

theorem fmt_ge (c : Int) (s p L : Nat) (hf : Fit s c.natAbs L) (hs : s ≤ p) : FmtIs c s p (textS c s p L) := by
  have hq : Qf c.natAbs s p = c.natAbs * 10 ^ (p - s) := by unfold Qf; rw [if_neg (by omega)]
  refine ⟨⟨L + (p - s), ?_, ?_⟩⟩
  · rw [hq]
    have := fit_zeros hf (p - s)
    rwa [show s + (p - s) = p by omega] at this
  · rw [hq]; exact text_out c s p L hf hs

theorem fmt_lt (c c2 : Int) (s p p2 j L : Nat) (hps : p < s) (hpj : p2 + j = p) (hmul : c2 * 10 ^ j = rc c (10 ^ (s - p))) (hf : Fit p2 c2.natAbs L) : FmtIs c s p (textS c2 p2 p L) := by
  have hq : Qf c.natAbs s p = rabs c.natAbs (10 ^ (s - p)) := by unfold Qf; rw [if_pos hps]; rfl
  have hU := pow_pos' (s - p)
  have hpj' : p - p2 = j := by omega
  have habs : c2.natAbs * 10 ^ j = rabs c.natAbs (10 ^ (s - p)) := by
    have h1 : (c2 * 10 ^ j).natAbs = c2.natAbs * 10 ^ j := by rw [Int.natAbs_mul, Int.natAbs_pow]; rfl
    rw [← h1, hmul]
    by_cases hc : c < 0
    · rw [rc_neg c _ hc]; omega
    · rw [rc_pos c _ (by omega) hU]; omega
  have hpj10 : (0 : Int) < 10 ^ j := Int.pow_pos (by decide)
  have hsgn : (decide (c2 < 0) && rabs c.natAbs (10 ^ (s - p)) != 0) = (decide (c < 0) && rabs c.natAbs (10 ^ (s - p)) != 0) := by
    by_cases h0 : rabs c.natAbs (10 ^ (s - p)) = 0
    · simp [h0]
    · have e : decide (c2 < 0) = decide (c < 0) := by
        rw [Bool.eq_iff_iff, decide_eq_true_iff, decide_eq_true_iff]
        by_cases hc : c < 0
        · rw [rc_neg c _ hc] at hmul
          refine ⟨fun _ => hc, fun _ => ?_⟩
          false_or_by_contra
          rename_i hn
          have := Int.mul_nonneg (show (0 : Int) ≤ c2 by omega) (Int.le_of_lt hpj10)
          omega
        · rw [rc_pos c _ (by omega) hU] at hmul
          refine ⟨fun h => ?_, fun h => absurd h hc⟩
          have := Int.mul_neg_of_neg_of_pos h hpj10
          omega
      rw [e]
  refine ⟨⟨L + j, ?_, ?_⟩⟩
  · rw [hq, ← habs]
    have := fit_zeros hf j
    rwa [hpj] at this
  · rw [text_out c2 p2 p L hf (by omega), hpj', habs, hq]
    unfold outStr
    rw [hsgn]

theorem rc_small (c c2 : Int) (s p j : Nat) (h1 : -1000000000000000000 < c) (h2 : c < 1000000000000000000) (hps : p < s) (hmul : c2 * 10 ^ j = rc c (10 ^ (s - p))) : -1000000000000000000 < c2 ∧ c2 < 1000000000000000000 := by
  have hU : 10 ≤ 10 ^ (s - p) := by
    have : (10 : Nat) ^ 1 ≤ 10 ^ (s - p) := Nat.pow_le_pow_right (by decide) (by omega)
    simpa using this
  have habs : c2.natAbs * 10 ^ j = rabs c.natAbs (10 ^ (s - p)) := by
    have h1 : (c2 * 10 ^ j).natAbs = c2.natAbs * 10 ^ j := by rw [Int.natAbs_mul, Int.natAbs_pow]; rfl
    rw [← h1, hmul]
    by_cases hc : c < 0
    · rw [rc_neg c _ hc]; omega
    · rw [rc_pos c _ (by omega) (by omega)]; omega
  have hle : c2.natAbs ≤ c2.natAbs * 10 ^ j := Nat.le_mul_of_pos_right _ (pow_pos' j)
  have hr : rabs c.natAbs (10 ^ (s - p)) ≤ c.natAbs / 10 + 1 := by
    unfold rabs
    have : c.natAbs / 10 ^ (s - p) ≤ c.natAbs / 10 := Nat.div_le_div_left hU (by decide)
    split <;> omega
  omega

set_option maxHeartbeats 1600000 in
theorem format_any (c : Int) (s p : Nat) (w : World) (h1 : -1000000000000000000 < c) (h2 : c < 1000000000000000000) (hs : s ≤ 18) (hp : p ≤ 65536) (hpow : PowIs w)
    (htab : Lib.TabIs Tryd.prog w "internal/strconv.uint64pow10" .u64 Lib.pow10Tab) :
    Calls Tryd.prog 7 #[.agg #[.int .i64 c, .int .i64 s], .int .i64 p] w fun e w' => ∃ l, FmtIs c s p l ∧ e = .returned (.string ⟨l.toArray⟩) ∧ Below w.heap.size w w' := by
  have hb0 : Below w.heap.size w (w.alloc (.cells #[.int .i64 c, .int .i64 s] 24)) := (Below.refl _ _).alloc (Nat.le_refl _) _
  have hpow0 := hpow.below hb0
  have HPOW : Hid (PowIs w) := hpow
  have HPOW0 : Hid (PowIs (w.alloc (.cells #[.int .i64 c, .int .i64 s] 24))) := hpow0
  clear hpow hpow0
  by_cases hps : p < s
  · go_enter Tryd.func7, Tryd.ntmps7
    go_wp2_with fail
    refine (round_lt c (10 ^ (s - p)) s p _ h1 h2 hs hps (pow_pos' _) (pow_le18 _ (by omega)) (HPOW0.out (s - p) (by omega))).mono ?_
    rintro e w1 ⟨c2, p2, j, rfl, hpj, hmul, hb1⟩
    obtain ⟨k1, k2⟩ := rc_small c c2 s p j h1 h2 hps hmul
    have hb01 := hb0.trans (hb1.mono (by simp))
    have htab1 := Go.Joins.tab_stays Tryd.u64g htab hb01 (Nat.le_refl _)
    have HM : Hid (c2 * 10 ^ j = rc c (10 ^ (s - p))) := hmul
    clear hmul
    have HPJ : Hid (p2 + j = p) := hpj
    have hp2 : p2 ≤ p := by omega
    clear hpj
    go_wp2_with fail
    refine (text_any c2 p2 p _ k1 k2 (by omega) hp2 hp htab1).mono ?_
    rintro e w2 ⟨L, hF, rfl, hb2⟩
    have HF : Hid (FmtIs c s p (textS c2 p2 p L)) := fmt_lt c c2 s p p2 j L hps HPJ.out HM.out hF
    have hb02 := hb01.trans (hb2.mono hb01.size)
    generalize textS c2 p2 p L = l at *
    clear hF hb2 hb1 htab1
    go_wp2
    go_ret
    exact ⟨l, HF.out, rfl, hb02⟩
  · go_enter Tryd.func7, Tryd.ntmps7
    go_wp2_with fail
    refine (round_ge c s p _ hp (by omega)).mono ?_
    rintro e w1 ⟨rfl, hb1⟩
    have hb01 := hb0.trans (hb1.mono (by simp))
    have htab1 := Go.Joins.tab_stays Tryd.u64g htab hb01 (Nat.le_refl _)
    go_wp2_with fail
    refine (text_any c s p _ h1 h2 hs (by omega) hp htab1).mono ?_
    rintro e w2 ⟨L, hF, rfl, hb2⟩
    have HF : Hid (FmtIs c s p (textS c s p L)) := fmt_ge c s p L hF (by omega)
    have hb02 := hb01.trans (hb2.mono hb01.size)
    generalize textS c s p L = l at *
    clear hF hb2 hb1 htab1
    go_wp2
    go_ret
    exact ⟨l, HF.out, rfl, hb02⟩

theorem model_any (c : Int) (s p : Nat) (w : World) (h1 : -1000000000000000000 < c) (h2 : c < 1000000000000000000) (hs : s ≤ 18) (hp : p ≤ 65536) :
    Calls Tryd.prog 8 #[.int .i64 c, .int .i64 s, .int .i64 p] w fun e w' => ∃ l, FmtIs c s p l ∧ e = .returned (.string ⟨l.toArray⟩) ∧ Below w.heap.size w w' := by
  by_cases hps : p < s
  · exact (model_lt c s p w h1 h2 hs hp hps).mono fun e w' ⟨L, he, hf, hb⟩ => ⟨_, ⟨⟨L, hf, rfl⟩⟩, he, hb⟩
  · exact (model_ge c s p w h1 h2 hs hp (by omega)).mono fun e w' ⟨L, he, hf, hb⟩ => ⟨_, ⟨⟨L, hf, rfl⟩⟩, he, hb⟩

set_option maxHeartbeats 1600000 in
theorem law (c s p : Int) (w : World) (hpow : PowIs w) (htab : Lib.TabIs Tryd.prog w "internal/strconv.uint64pow10" .u64 Lib.pow10Tab) :
    Calls Tryd.prog 3 #[.int .i64 c, .int .i64 s, .int .i64 p] w fun e w' => e = .returned (.bool true) ∧ Below w.heap.size w w' := by
  have HPOW : Hid (PowIs w) := hpow
  clear hpow
  by_cases hp0 : p < 0
  · go_enter Tryd.func3, Tryd.ntmps3
    go_wp2
    go_ret
    exact ⟨rfl, Below.refl _ _⟩
  by_cases hp1 : 65536 < p
  · go_enter Tryd.func3, Tryd.ntmps3
    go_wp2
    go_ret
    exact ⟨rfl, Below.refl _ _⟩
  cases hu : unitB c s with
  | false =>
    go_enter Tryd.func3, Tryd.ntmps3
    go_wp2_with (go_at_call 5; refine (unit_any c s _).mono ?_; rintro e w' ⟨rfl, rfl⟩)
    go_ret
    exact ⟨rfl, Below.refl _ _⟩
  | true =>
    have hu' := hu
    simp only [unitB, Bool.and_eq_true, decide_eq_true_eq] at hu'
    obtain ⟨⟨⟨⟨hs0, hs1⟩, h1⟩, h2⟩, _⟩ := hu'
    obtain ⟨s, rfl⟩ := Int.eq_ofNat_of_zero_le hs0
    obtain ⟨p, rfl⟩ := Int.eq_ofNat_of_zero_le (show 0 ≤ p by omega)
    go_enter Tryd.func3, Tryd.ntmps3
    go_wp2_with (go_at_call 5; refine (unit_any c _ _).mono ?_; rintro e w' ⟨rfl, rfl⟩)
    go_wp2_with fail
    refine (newDecimal_any c s _).mono ?_
    rintro e w1 ⟨rfl, hb1⟩
    have htab1 := Go.Joins.tab_stays Tryd.u64g htab hb1 (Nat.le_refl _)
    have HP1 : Hid (PowIs w1) := HPOW.out.below hb1
    go_wp2_with fail
    have hbA : Below w1.heap.size w1 (w1.alloc (.cells #[.int .i64 c, .int .i64 s] 24)) := (Below.refl _ _).alloc (Nat.le_refl _) _
    refine (format_any c s p _ h1 h2 (by omega) (by omega) (HP1.out.below hbA) (Go.Joins.tab_stays Tryd.u64g htab1 hbA (Nat.le_refl _))).mono ?_
    rintro e w2 ⟨l, hl, rfl, hb2⟩
    go_wp2_with fail
    refine (model_any c s p _ h1 h2 (by omega) (by omega)).mono ?_
    rintro e w3 ⟨l', hl', rfl, hb3⟩
    obtain rfl := fmt_unique hl hl'
    have hbB := hbA.trans (hb2.mono (by simp))
    have hbC := hbB.trans (hb3.mono hbB.size)
    have hbD := hb1.trans (hbC.mono hb1.size)
    clear hl hl' hbA hb2 hb3 hbB hbC htab htab1
    go_wp2
    go_ret
    exact ⟨rfl, hbD⟩
end Go.Proofs.Qxb6612180aDoor
