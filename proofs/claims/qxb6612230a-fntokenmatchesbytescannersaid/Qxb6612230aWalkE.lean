/-
  WALKS for seat b6612230a: the two laws, over the contract of 'token'.
-/
import Derived.Test.Qxb6612230aWalkB
import Derived.Test.Qxb6612230aWalkC
namespace Go.Proofs.Qxb6612230a
open Go.RowKit

def TokenSaid : Prop := ∀ (s : ByteArray) (w : World), s.size ≤ 1048576 → Calls Try.prog 6 #[.string s] w fun e w' => e = .returned (.string ⟨(tm s.data.toList).toArray⟩) ∧ Below w.heap.size w w'

theorem mk_size (l : List UInt8) : (ByteArray.mk l.toArray).size = l.length := rfl

set_option maxHeartbeats 1600000 in
theorem law1 (hT : TokenSaid) (s : ByteArray) (w0 : s.size ≤ maxLen) (w : World) :
    Calls Try.prog 3 #[.string s] w fun e w' => e = .returned (.bool true) ∧ Below w.heap.size w w' := by
  unfold maxLen at w0
  by_cases h : 1048576 < (s.size : Int)
  · go_enter Try.func3, Try.ntmps3
    go_wp2_with (go_at_call 5; refine (bytesA_no s _ h).mono ?_; rintro e w' ⟨rfl, rfl⟩)
    go_ret
    exact ⟨rfl, Below.refl _ _⟩
  · have hs : s.size ≤ 1048576 := by omega
    go_enter Try.func3, Try.ntmps3
    go_wp2_with (go_at_call 5; refine (bytesA_any s _ h).mono ?_; rintro e w' ⟨rfl, rfl⟩)
    go_wp2_with fail
    refine (hT s _ hs).mono ?_
    rintro e w1 ⟨rfl, hb1⟩
    go_wp2_with fail
    refine (model_any s _ hs).mono ?_
    rintro e w2 ⟨rfl, hb2⟩
    have hb := hb1.trans (hb2.mono hb1.size)
    generalize (⟨(tm s.data.toList).toArray⟩ : ByteArray) = t
    go_wp2
    go_ret
    exact ⟨rfl, hb⟩

/-- A text in the scanner's form. -/
def Good (t : ByteArray) : Prop := ∀ (i : Nat) (h : i < t.size), sp t[i] = true → t[i] = 32 ∧ i ≠ 0 ∧ i + 1 ≠ t.size ∧ ∀ (h' : i - 1 < t.size), sp t[i - 1] = false
theorem good_tm (l : List UInt8) : Good ⟨(tm l).toArray⟩ := by
  intro i h hs
  have hl : i < (tm l).length := h
  have e : (tm l)[i]? = some ((ByteArray.mk (tm l).toArray)[i]) := by rw [List.getElem?_eq_getElem hl]; rfl
  obtain ⟨g1, g2, g3, g4⟩ := tm_good l i _ e hs
  refine ⟨g1, g2, g3, fun h' => ?_⟩
  have hl' : i - 1 < (tm l).length := h'
  exact g4 _ (by rw [List.getElem?_eq_getElem hl']; rfl)

def cnt (t : ByteArray) (k : Nat) : Nat := ((t.data.toList.take k).filter (· == 32)).length
theorem cnt_le (t : ByteArray) (k : Nat) : cnt t k ≤ k := by
  unfold cnt
  have h1 := List.length_filter_le (· == 32) (t.data.toList.take k)
  have h2 := List.length_take_le k t.data.toList
  omega
theorem cnt_succ (t : ByteArray) (k : Nat) (h : k < t.size) : cnt t (k + 1) = cnt t k + if (t[k] == 32) = true then 1 else 0 := by
  unfold cnt
  rw [List.take_succ_eq_append_getElem (by simpa using h), List.filter_append, List.length_append]
  have e : t.data.toList[k]'(by simpa using h) = t[k] := rfl
  rw [e]
  by_cases hc : (t[k] == 32) = true
  · simp [hc]
  · simp [hc]
theorem notsp {c : UInt8} (h : sp c = false) : ((c.toNat : Int) == 32) = false ∧ ((c.toNat : Int) == 9) = false ∧ ((c.toNat : Int) == 13) = false ∧ ((c.toNat : Int) == 10) = false := by
  have : spI (c.toNat : Int) = false := by rw [spI_byte]; exact h
  simp [spI] at this ⊢
  omega
theorem is32 {c : UInt8} (h : c = 32) : (c.toNat : Int) = 32 := by rw [h]; rfl

set_option maxHeartbeats 3200000 in
theorem law2 (hT : TokenSaid) (s : ByteArray) (w0 : s.size ≤ maxLen) (w : World) :
    Calls Try.prog 4 #[.string s] w fun e w' => e = .returned (.bool true) ∧ Below w.heap.size w w' := by
  unfold maxLen at w0
  by_cases h : 1048576 < (s.size : Int)
  · go_enter Try.func4, Try.ntmps4
    go_wp2_with (go_at_call 8; refine (bytesB_no s _ h).mono ?_; rintro e w' ⟨rfl, rfl⟩)
    go_ret
    exact ⟨rfl, Below.refl _ _⟩
  · have hs : s.size ≤ 1048576 := by omega
    have hgood := good_tm s.data.toList
    have hsz := tm_len s.data.toList
    have htt := tm_tm s.data.toList
    have hww := tm_words s.data.toList
    have htx := tm_text s.data.toList
    go_enter Try.func4, Try.ntmps4
    go_wp2_with (go_at_call 8; refine (bytesB_any s _ h).mono ?_; rintro e w' ⟨rfl, rfl⟩)
    go_wp2_with fail
    refine (hT s _ hs).mono ?_
    rintro e w1 ⟨rfl, hb1⟩
    obtain ⟨t, ht⟩ : ∃ t : ByteArray, t = ⟨(tm s.data.toList).toArray⟩ := ⟨_, rfl⟩
    have htl : t.data.toList = tm s.data.toList := by rw [ht]
    rw [← ht] at hgood ⊢
    have htsz : t.size ≤ 1048576 := by
      have : t.size = (tm s.data.toList).length := by rw [ht]; rfl
      have h3 : s.data.toList.length = s.size := by simp
      omega
    have HTT : Hid ((⟨(tm t.data.toList).toArray⟩ : ByteArray) = t) := by show _ = _; rw [htl, htt, ht]
    have HFG : Hid (FF s.data.toList 0 = GG t.data.toList 0) := by show _ = _; unfold FF GG; rw [List.drop_zero, List.drop_zero, htl]; exact htx
    have HW : Hid (cnt t t.size = if 0 < wordsOf s.data.toList then wordsOf s.data.toList - 1 else 0) := by
      show _ = _
      rw [← hww]; unfold cnt; rw [List.take_of_length_le (by simp), htl]
    have hwle : wordsOf s.data.toList ≤ 1048576 := by
      have := wk_le s.data.toList s.size
      unfold wk at this
      rw [List.take_of_length_le (by simp)] at this
      exact Nat.le_trans this hs
    have HG : Hid (Good t) := hgood
    clear hgood htx hww htt ht htl hsz
    go_wp2_with fail
    go_loop [4, 5] (fun n i => ∃ k : Nat, k ≤ t.size ∧ i = .int .i64 k ∧ n = .int .i64 (cnt t k)) (fun _ i => t.size - (intOf i).toNat)
    case atStart => exact ⟨0, Nat.zero_le _, rfl, rfl⟩
    case round =>
      obtain ⟨k, hk, rfl, rfl⟩ := hrel
      have hcl := cnt_le t k
      by_cases hlt : k < t.size
      · have hcs := cnt_succ t k hlt
        cases hsp : sp t[k] with
        | true =>
          obtain ⟨g1, g2, g3, g4⟩ := HG.out k hlt hsp
          obtain ⟨j, rfl⟩ : ∃ j, k = j + 1 := ⟨k - 1, by omega⟩
          have hjl : j < t.size := by omega
          have hj := (notsp (g4 (by omega))).1
          simp only [Nat.add_sub_cancel] at hj
          have hI := is32 g1
          have e1 : ((j : Int) + 1 == 0) = false := by simp; omega
          have e2 : ((j : Int) + 1 == (t.size : Int) - 1) = false := by simp; omega
          have HC : Hid (cnt t (j + 1 + 1) = cnt t (j + 1) + 1) := by show _ = _; rw [hcs, g1]; rfl
          clear hcs hsp g1 g4
          go_wp2
          go_round
          case rel => exact ⟨j + 1 + 1, by omega, by go_num, by rw [HC.out]; go_num⟩
          case measure => simp [intOf]; omega
        | false =>
          obtain ⟨e1, e2, e3, e4⟩ := notsp hsp
          have HC : Hid (cnt t (k + 1) = cnt t k) := by
            show _ = _
            rw [hcs, ← beq32, e1]; simp
          clear hcs hsp
          go_wp2
          go_round
          case rel => exact ⟨k + 1, by omega, by go_num, by rw [HC.out]⟩
          case measure => simp [intOf]; omega
      · obtain rfl : k = t.size := by omega
        by_cases hw0 : 0 < wordsOf s.data.toList
        · have hw1 : (0 : Int) < (wordsOf s.data.toList : Int) := by omega
          have hne : ((cnt t t.size : Int) != (wordsOf s.data.toList : Int) - 1) = false := by
            have := HW.out
            rw [if_pos hw0] at this
            rw [this]; simp; omega
          clear HW HG hlt hk hw0
          go_wp2_with fail
          refine (words_any s _ hs).mono ?_
          rintro e w2 ⟨rfl, rfl⟩
          go_wp2_with fail
          refine (same_any s t _ hs htsz HFG).mono ?_
          rintro e w2 ⟨rfl, q, rfl⟩
          go_wp2_with fail
          refine (hT t _ htsz).mono ?_
          rintro e w3 ⟨rfl, hb3⟩
          rw [HTT.out]
          have hb := hb1.trans (Below.trans (below_drewN (Below.refl _ _) q) (hb3.mono (by simpa using hb1.size)))
          go_wp2
          go_ret
          exact ⟨rfl, hb⟩
        · have hw1 : ¬ (0 : Int) < (wordsOf s.data.toList : Int) := by omega
          have hne : ((cnt t t.size : Int) != 0) = false := by
            have := HW.out
            rw [if_neg hw0] at this
            rw [this]; simp
          clear HW HG hlt hk hw0
          go_wp2_with fail
          refine (words_any s _ hs).mono ?_
          rintro e w2 ⟨rfl, rfl⟩
          go_wp2_with fail
          refine (same_any s t _ hs htsz HFG).mono ?_
          rintro e w2 ⟨rfl, q, rfl⟩
          go_wp2_with fail
          refine (hT t _ htsz).mono ?_
          rintro e w3 ⟨rfl, hb3⟩
          rw [HTT.out]
          have hb := hb1.trans (Below.trans (below_drewN (Below.refl _ _) q) (hb3.mono (by simpa using hb1.size)))
          go_wp2
          go_ret
          exact ⟨rfl, hb⟩
end Go.Proofs.Qxb6612230a
