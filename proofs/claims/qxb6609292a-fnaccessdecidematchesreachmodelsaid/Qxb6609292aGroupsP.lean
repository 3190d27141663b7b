/-
  Plain laws for seat b6609292a: a counting sort by keys.
-/
import Derived.Test.Qxb6609292aCycle
set_option linter.unusedVariables false
set_option linter.unusedSimpArgs false
namespace Go.Proofs.Qxb6609292a
open Go.RowKit Go.Maps

/-- How many of the first i keys are k. -/
def cn (keys : List Int) (i : Nat) (k : Nat) : Nat := (keys.take i).count (k : Int)
/-- How many keys are below k. -/
def off (keys : List Int) (k : Nat) : Nat := keys.countP (fun z => decide (0 ≤ z) && decide (z < (k : Int)))
theorem off_le (keys : List Int) (k : Nat) : off keys k ≤ keys.length := List.countP_le_length
theorem off_zero (keys : List Int) : off keys 0 = 0 := by
  unfold off
  rw [List.countP_eq_zero]
  intro z _
  simp
theorem off_succ (keys : List Int) (k : Nat) : off keys (k + 1) = off keys k + keys.count (k : Int) := by
  unfold off
  induction keys with
  | nil => rfl
  | cons z r ih =>
    rw [List.countP_cons, List.countP_cons, List.count_cons, ih]
    by_cases h1 : z = (k : Int)
    · subst h1
      have e1 : (decide (0 ≤ (k : Int)) && decide ((k : Int) < ((k + 1 : Nat) : Int))) = true := by simp; omega
      have e2 : (decide (0 ≤ (k : Int)) && decide ((k : Int) < (k : Int))) = false := by simp
      rw [e1, e2]; simp; omega
    · have e1 : (decide (0 ≤ z) && decide (z < ((k + 1 : Nat) : Int))) = (decide (0 ≤ z) && decide (z < (k : Int))) := by
        congr 1
        simp only [decide_eq_decide]
        omega
      rw [e1]
      have e3 : (z == (k : Int)) = false := by simpa using h1
      rw [e3]; simp; omega
theorem off_mono (keys : List Int) {k k' : Nat} (h : k ≤ k') : off keys k ≤ off keys k' := by
  induction k' with
  | zero => rw [Nat.le_zero.1 h]; exact Nat.le_refl _
  | succ m ih =>
    by_cases e : k = m + 1
    · rw [e]; exact Nat.le_refl _
    · have := ih (by omega)
      rw [off_succ]; omega
theorem cn_zero (keys : List Int) (k : Nat) : cn keys 0 k = 0 := by simp [cn]
theorem cn_full (keys : List Int) (k : Nat) : cn keys keys.length k = keys.count (k : Int) := by simp [cn]
theorem cn_succ {keys : List Int} {i : Nat} {z : Int} (h : keys[i]? = some z) (k : Nat) : cn keys (i + 1) k = cn keys i k + if z = (k : Int) then 1 else 0 := by
  have hi := (List.getElem?_eq_some_iff.1 h).1
  have e := (List.getElem?_eq_some_iff.1 h).2
  unfold cn
  rw [List.take_succ_eq_append_getElem hi, List.count_append, e, List.count_singleton]
  by_cases hz : z = (k : Int)
  · simp [hz]
  · simp [hz]
theorem cn_same {keys : List Int} {i k : Nat} (h : keys[i]? = some (k : Int)) : cn keys (i + 1) k = cn keys i k + 1 := by rw [cn_succ h, if_pos rfl]
theorem cn_other {keys : List Int} {i k : Nat} {z : Int} (h : keys[i]? = some z) (hz : z ≠ (k : Int)) : cn keys (i + 1) k = cn keys i k := by rw [cn_succ h, if_neg hz]; rfl
theorem cn_mono (keys : List Int) {i j : Nat} (h : i ≤ j) (k : Nat) : cn keys i k ≤ cn keys j k := by
  unfold cn
  have : keys.take i = (keys.take j).take i := by rw [List.take_take, Nat.min_eq_left h]
  rw [this]
  exact (List.take_sublist i _).count_le _
theorem cn_lt {keys : List Int} {i k : Nat} (h : keys[i]? = some (k : Int)) : cn keys i k < keys.count (k : Int) := by
  have hi := (List.getElem?_eq_some_iff.1 h).1
  have h1 := cn_same h
  have h2 := cn_mono keys (show i + 1 ≤ keys.length by omega) k
  rw [cn_full] at h2
  omega
/-- Where number i goes. -/
def slot (keys : List Int) (i k : Nat) : Nat := off keys k + cn keys i k
theorem slot_lt {keys : List Int} {i k n : Nat} (h : keys[i]? = some (k : Int)) (hk : k < n) : slot keys i k < off keys n := by
  have h1 := cn_lt h
  have h2 := off_succ keys k
  have h3 := off_mono keys (show k + 1 ≤ n by omega)
  unfold slot; omega
theorem slot_ne {keys : List Int} {i j k l : Nat} (hi : keys[i]? = some (k : Int)) (hj : keys[j]? = some (l : Int)) (hlt : j < i) : slot keys j l ≠ slot keys i k := by
  unfold slot
  by_cases e : l = k
  · subst e
    have h1 := cn_same hj
    have h2 := cn_mono keys (show j + 1 ≤ i by omega) l
    omega
  · have a1 := cn_lt hi
    have a2 := cn_lt hj
    have b1 := off_succ keys k
    have b2 := off_succ keys l
    rcases Nat.lt_or_gt_of_ne e with h | h
    · have := off_mono keys (show l + 1 ≤ k by omega); omega
    · have := off_mono keys (show k + 1 ≤ l by omega); omega
/-- Every key is none or below n. -/
def KeysOk (keys : List Int) (n : Nat) : Prop := ∀ (i : Nat) (z : Int), keys[i]? = some z → z = -1 ∨ ∃ k : Nat, z = k ∧ k < n
/-- What the slices hold: where each group begins; each number in its place. -/
def Grouped (keys : List Int) (n : Nat) (S M : List Int) : Prop :=
  S.length = n + 1 ∧ (∀ k : Nat, k ≤ n → S[k]? = some (off keys k : Int)) ∧ M.length = off keys n ∧ ∀ i k : Nat, k < n → keys[i]? = some (k : Int) → M[slot keys i k]? = some (i : Int)
end Go.Proofs.Qxb6609292a
