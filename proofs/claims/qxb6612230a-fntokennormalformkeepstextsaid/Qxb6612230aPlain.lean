/-
  THE PLAIN LAWS under 'token' (seat b6612230a): no Go in sight. A string is its list of bytes.
-/
set_option linter.unusedVariables false
namespace Go.Proofs.Qxb6612230a

/-- XML white space, by number. -/
def spN (n : Nat) : Bool := n == 32 || n == 9 || n == 13 || n == 10
def sp (c : UInt8) : Bool := spN c.toNat

/-- The fields so far, and the one that is open. -/
def fstep (x : List (List UInt8) × Option (List UInt8)) (c : UInt8) : List (List UInt8) × Option (List UInt8) :=
  if sp c then (x.1 ++ x.2.toList, none) else (x.1, some (x.2.getD [] ++ [c]))
def fieldsOf (x : List (List UInt8) × Option (List UInt8)) : List (List UInt8) := x.1 ++ x.2.toList
def fields (l : List UInt8) : List (List UInt8) := fieldsOf (l.foldl fstep ([], none))

/-- The byte scanner: what stands in 'out', and whether a gap is owed. -/
def tstep (x : List UInt8 × Bool) (c : UInt8) : List UInt8 × Bool :=
  if sp c then (x.1, x.2 || !x.1.isEmpty) else ((if x.2 then x.1 ++ [32] else x.1) ++ [c], false)
def tm (l : List UInt8) : List UInt8 := (l.foldl tstep ([], false)).1

/-! ### join -/
theorem inter_snoc (sep : List UInt8) : ∀ (xs : List (List UInt8)) (a : List UInt8), sep.intercalate (xs ++ [a]) = (if xs = [] then [] else sep.intercalate xs ++ sep) ++ a
  | [], a => by simp [List.intercalate]
  | [x], a => by simp [List.intercalate]
  | x :: y :: r, a => by
    have ih := inter_snoc sep (y :: r) a
    have e1 : sep.intercalate (x :: y :: r ++ [a]) = x ++ sep ++ sep.intercalate (y :: r ++ [a]) := by simp [List.intercalate]
    have e2 : sep.intercalate (x :: y :: r) = x ++ sep ++ sep.intercalate (y :: r) := by simp [List.intercalate]
    rw [e1, ih, e2]
    simp

theorem inter_ne (sep : List UInt8) (xs : List (List UInt8)) (h : ∀ a ∈ xs, a ≠ []) : (sep.intercalate xs).isEmpty = xs.isEmpty := by
  match xs, h with
  | [], _ => rfl
  | [x], h => simp [List.intercalate, h x (by simp)]
  | x :: y :: r, h =>
    have e2 : sep.intercalate (x :: y :: r) = x ++ sep ++ sep.intercalate (y :: r) := by simp [List.intercalate]
    rw [e2]
    have := h x (by simp)
    simp [this]

/-- The scanner follows the fields. -/
structure Follows (x : List (List UInt8) × Option (List UInt8)) (y : List UInt8 × Bool) : Prop where
  out : y.1 = List.intercalate [32] (fieldsOf x)
  gap : y.2 = (x.2.isNone && !x.1.isEmpty)
  ne1 : ∀ a ∈ x.1, a ≠ []
  ne2 : ∀ a, x.2 = some a → a ≠ []

theorem follows_step {x : List (List UInt8) × Option (List UInt8)} {y : List UInt8 × Bool} (h : Follows x y) (c : UInt8) : Follows (fstep x c) (tstep y c) := by
  obtain ⟨xs, cur⟩ := x
  obtain ⟨out, gap⟩ := y
  obtain ⟨h1, h2, h3, h4⟩ := h
  simp only at h1 h2 h3 h4
  cases hs : sp c with
  | true =>
    have hf : fstep (xs, cur) c = (xs ++ cur.toList, none) := by simp [fstep, hs]
    have ht : tstep (out, gap) c = (out, gap || !out.isEmpty) := by simp [tstep, hs]
    rw [hf, ht]
    have hall : ∀ a ∈ xs ++ cur.toList, a ≠ [] := by
      intro a ha
      rw [List.mem_append] at ha
      rcases ha with ha | ha
      · exact h3 a ha
      · exact h4 a (by simpa using ha)
    refine ⟨by simp [fieldsOf] at h1 ⊢; exact h1, ?_, hall, by simp⟩
    simp only [Option.isNone_none, Bool.true_and]
    have he : out.isEmpty = (xs ++ cur.toList).isEmpty := by rw [h1]; exact inter_ne _ _ hall
    rw [he, h2]
    cases cur with
    | none => cases xs <;> simp
    | some a => simp
  | false =>
    have hf : fstep (xs, cur) c = (xs, some (cur.getD [] ++ [c])) := by simp [fstep, hs]
    have ht : tstep (out, gap) c = ((if gap then out ++ [32] else out) ++ [c], false) := by simp [tstep, hs]
    rw [hf, ht]
    refine ⟨?_, by simp, h3, by simp⟩
    simp only [fieldsOf, Option.toList_some]
    rw [inter_snoc]
    cases cur with
    | none =>
      simp only [fieldsOf, Option.toList_none, List.append_nil] at h1
      simp only [Option.isNone_none, Bool.true_and] at h2
      rw [h2]
      cases xs with
      | nil => simp [h1, List.intercalate]
      | cons z r => simp [h1]
    | some a =>
      simp only [Option.isNone_some, Bool.false_and] at h2
      simp only [fieldsOf, Option.toList_some] at h1
      rw [inter_snoc] at h1
      simp [h2, h1]

theorem follows_all (l : List UInt8) : ∀ (x : List (List UInt8) × Option (List UInt8)) (y : List UInt8 × Bool), Follows x y → Follows (l.foldl fstep x) (l.foldl tstep y) := by
  induction l with
  | nil => intro x y h; exact h
  | cons c r ih => intro x y h; exact ih _ _ (follows_step h c)

/-- THE FIRST LAW: the fields joined by one space are what the scanner leaves. -/
theorem join_fields (l : List UInt8) : List.intercalate [32] (fields l) = tm l :=
  ((follows_all l ([], none) ([], false) ⟨rfl, rfl, by simp, by simp⟩).out).symm

/-! ### what the scanner leaves -/
/-- How many words: the count, and whether the byte before was white space (or none). -/
def wstep (x : Nat × Bool) (c : UInt8) : Nat × Bool := (if !sp c && x.2 then x.1 + 1 else x.1, sp c)
def wordsOf (l : List UInt8) : Nat := (l.foldl wstep (0, true)).1

structure Left (l : List UInt8) (y : List UInt8 × Bool) (n : Nat × Bool) : Prop where
  gapOut : y.2 = true → y.1 ≠ []
  again : y.1.foldl tstep ([], false) = (y.1, false)
  good : ∀ i c, y.1[i]? = some c → sp c = true → c = 32 ∧ i ≠ 0 ∧ i + 1 ≠ y.1.length ∧ ∀ d, y.1[i - 1]? = some d → sp d = false
  prev : n.2 = (y.1.isEmpty || y.2)
  words : n.1 = if y.1 = [] then 0 else (y.1.filter (· == 32)).length + 1
  text : l.filter (fun c => !sp c) = y.1.filter (fun c => !(c == 32))
  len : y.1.length + (if y.2 then 1 else 0) ≤ l.length

theorem sp_32 : sp 32 = true := by decide
theorem ne_32 {c : UInt8} (h : sp c = false) : (c == 32) = false := by
  cases hc : c == 32 with
  | false => rfl
  | true => rw [eq_of_beq hc] at h; exact absurd h (by decide)

theorem left_step {l : List UInt8} {y : List UInt8 × Bool} {n : Nat × Bool} (h : Left l y n) (c : UInt8) : Left (l ++ [c]) (tstep y c) (wstep n c) := by
  obtain ⟨out, gap⟩ := y
  obtain ⟨k, pr⟩ := n
  obtain ⟨h1, h2, h3, h4, h5, h6, h7⟩ := h
  simp only at h1 h2 h3 h4 h5 h6 h7
  cases hs : sp c with
  | true =>
    have ht : tstep (out, gap) c = (out, gap || !out.isEmpty) := by simp [tstep, hs]
    have hw : wstep (k, pr) c = (k, true) := by simp [wstep, hs]
    rw [ht, hw]
    refine ⟨?_, h2, h3, ?_, h5, ?_, ?_⟩
    · intro hg
      simp only [Bool.or_eq_true] at hg
      rcases hg with hg | hg
      · exact h1 hg
      · intro h0; simp only at h0; rw [h0] at hg; simp at hg
    · cases out <;> simp
    · simp only at h6 ⊢; rw [List.filter_append, h6]; simp [hs]
    · simp only [List.length_append, List.length_cons, List.length_nil]
      split <;> split at h7 <;> omega
  | false =>
    have ht : tstep (out, gap) c = ((if gap then out ++ [32] else out) ++ [c], false) := by simp [tstep, hs]
    have hc := ne_32 hs
    have hlast : ∀ d, out[out.length - 1]? = some d → sp d = false := by
      intro d hd
      cases hsd : sp d with
      | false => rfl
      | true =>
        have hl := (List.getElem?_eq_some_iff.1 hd).1
        have := (h3 _ d hd hsd).2.2.1
        omega
    rw [ht]
    cases gap with
    | false =>
      simp only [Bool.false_eq_true, if_false]
      have hw : wstep (k, pr) c = (if out.isEmpty then k + 1 else k, false) := by
        simp only [wstep, hs, Bool.not_false, Bool.true_and, h4, Bool.or_false]
      rw [hw]
      refine ⟨by simp, ?_, ?_, by simp, ?_, ?_, ?_⟩
      · rw [List.foldl_append, h2]; simp [tstep, hs]
      · intro i d hd hsd
        simp only at hd
        by_cases hi : i < out.length
        · rw [List.getElem?_append_left hi] at hd
          obtain ⟨g1, g2, g3, g4⟩ := h3 i d hd hsd
          refine ⟨g1, g2, ?_, ?_⟩
          · simp only [List.length_append, List.length_cons, List.length_nil]; omega
          · intro e he
            simp only at he
            rw [List.getElem?_append_left (by omega)] at he
            exact g4 e he
        · rw [List.getElem?_append_right (by omega)] at hd
          have : i - out.length = 0 := by
            have := (List.getElem?_eq_some_iff.1 hd).1
            simp at this; omega
          rw [this] at hd
          simp at hd
          subst hd
          rw [hs] at hsd
          exact absurd hsd (by simp)
      · simp only [h5]
        cases out with
        | nil => simp [hc]
        | cons z r =>
          have e : List.filter (fun x => x == 32) (z :: r ++ [c]) = List.filter (fun x => x == 32) (z :: r) := by rw [List.filter_append]; simp [hc]
          rw [e]; simp
      · simp only; rw [List.filter_append, List.filter_append, h6]; simp [hs, hc]
      · simp at h7 ⊢; omega
    | true =>
      simp only [if_true]
      have ho : out ≠ [] := h1 rfl
      have hl : 0 < out.length := by cases out with | nil => exact absurd rfl ho | cons => simp
      have hw : wstep (k, pr) c = (k + 1, false) := by
        simp only [wstep, hs, h4]; simp
      rw [hw]
      refine ⟨by simp, ?_, ?_, by simp, ?_, ?_, ?_⟩
      · rw [List.foldl_append, List.foldl_append, h2]
        have : tstep (out, false) 32 = (out, true) := by
          have : out.isEmpty = false := by cases out with | nil => exact absurd rfl ho | cons => rfl
          simp [tstep, sp_32, this]
        simp only [List.foldl_cons, List.foldl_nil, this]
        simp [tstep, hs]
      · intro i d hd hsd
        simp only at hd
        by_cases hi : i < out.length
        · rw [List.append_assoc, List.getElem?_append_left hi] at hd
          obtain ⟨g1, g2, g3, g4⟩ := h3 i d hd hsd
          refine ⟨g1, g2, ?_, ?_⟩
          · simp only [List.length_append, List.length_cons, List.length_nil]; omega
          · intro e he
            simp only at he
            rw [List.append_assoc, List.getElem?_append_left (by omega)] at he
            exact g4 e he
        · rw [List.append_assoc, List.getElem?_append_right (by omega)] at hd
          have hlt := (List.getElem?_eq_some_iff.1 hd).1
          simp at hlt
          by_cases h0 : i - out.length = 0
          · rw [h0] at hd
            simp at hd
            refine ⟨hd.symm, by omega, ?_, ?_⟩
            · simp only [List.length_append, List.length_cons, List.length_nil]; omega
            · intro e he
              simp only at he
              rw [List.append_assoc, List.getElem?_append_left (by omega)] at he
              exact hlast e (by rw [show out.length - 1 = i - 1 by omega]; exact he)
          · have h1' : i - out.length = 1 := by omega
            rw [h1'] at hd
            simp at hd
            subst hd
            rw [hs] at hsd
            exact absurd hsd (by simp)
      · simp only [h5, if_neg ho]
        simp [List.filter_append, hc]
      · simp only; rw [List.filter_append, List.filter_append, List.filter_append, h6]; simp [hs, hc]
      · simp at h7 ⊢; omega

theorem left_all (l : List UInt8) : ∀ (pre : List UInt8) (y : List UInt8 × Bool) (n : Nat × Bool), Left pre y n → Left (pre ++ l) (l.foldl tstep y) (l.foldl wstep n) := by
  induction l with
  | nil => intro pre y n h; simpa using h
  | cons c r ih =>
    intro pre y n h
    have := ih _ _ _ (left_step h c)
    simpa using this

theorem left_tm (l : List UInt8) : Left l (l.foldl tstep ([], false)) (l.foldl wstep (0, true)) :=
  left_all l [] ([], false) (0, true) ⟨by simp, rfl, by simp, rfl, rfl, rfl, by simp⟩

theorem tm_len (l : List UInt8) : (tm l).length ≤ l.length := by
  have := (left_tm l).len
  unfold tm
  split at this <;> omega
theorem tm_tm (l : List UInt8) : tm (tm l) = tm l := by
  have := (left_tm l).again
  unfold tm
  rw [this]
theorem tm_good (l : List UInt8) (i : Nat) (c : UInt8) (h : (tm l)[i]? = some c) (hs : sp c = true) : c = 32 ∧ i ≠ 0 ∧ i + 1 ≠ (tm l).length ∧ ∀ d, (tm l)[i - 1]? = some d → sp d = false :=
  (left_tm l).good i c h hs
theorem tm_text (l : List UInt8) : l.filter (fun c => !sp c) = (tm l).filter (fun c => !(c == 32)) := (left_tm l).text
theorem tm_words (l : List UInt8) : ((tm l).filter (· == 32)).length = if 0 < wordsOf l then wordsOf l - 1 else 0 := by
  have h := (left_tm l).words
  have e : wordsOf l = if tm l = [] then 0 else ((tm l).filter (· == 32)).length + 1 := h
  rw [e]
  by_cases h0 : tm l = []
  · simp [h0]
  · simp [h0]

end Go.Proofs.Qxb6612230a
