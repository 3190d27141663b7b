/-
  Plain laws for seat b6609292a: the members of a group; the breadth-first order below a place.
-/
import Derived.Test.Qxb6609292aUp
import Derived.Test.Qxb6609292aGroups
set_option linter.unusedVariables false
set_option linter.unusedSimpArgs false
namespace Go.Proofs.Qxb6609292a
open Go.RowKit Go.Maps

/-- The numbers below m whose key is k, in order. -/
def kidsTo (keys : List Int) (m k : Nat) : List Nat := (List.range m).filter fun i => decide (keys[i]? = some (k : Int))
def kids (keys : List Int) (k : Nat) : List Nat := kidsTo keys keys.length k
theorem kidsTo_succ (keys : List Int) (m k : Nat) : kidsTo keys (m + 1) k = kidsTo keys m k ++ (if keys[m]? = some (k : Int) then [m] else []) := by
  unfold kidsTo
  rw [List.range_succ, List.filter_append]
  congr 1
  by_cases h : keys[m]? = some (k : Int)
  · simp [h]
  · simp [h]
theorem kidsTo_len (keys : List Int) (k : Nat) : ∀ m, m ≤ keys.length → (kidsTo keys m k).length = cn keys m k
  | 0, _ => by simp [kidsTo, cn]
  | m + 1, h => by
    obtain ⟨z, hz⟩ := get_at keys m (by omega)
    rw [kidsTo_succ, List.length_append, kidsTo_len keys k m (by omega), cn_succ hz]
    by_cases e : z = (k : Int)
    · rw [if_pos e, if_pos (by rw [hz, e])]; rfl
    · rw [if_neg e, if_neg (by rw [hz]; simp [e])]; rfl
theorem kids_len (keys : List Int) (k : Nat) : (kids keys k).length = keys.count (k : Int) := by
  unfold kids; rw [kidsTo_len keys k _ (Nat.le_refl _), cn_full]
theorem kidsTo_at (keys : List Int) (k : Nat) : ∀ (m j i : Nat), m ≤ keys.length → (kidsTo keys m k)[j]? = some i → keys[i]? = some (k : Int) ∧ cn keys i k = j
  | 0, j, i, _, h => by simp [kidsTo] at h
  | m + 1, j, i, hm, h => by
    rw [kidsTo_succ] at h
    by_cases hj : j < (kidsTo keys m k).length
    · rw [List.getElem?_append_left hj] at h
      exact kidsTo_at keys k m j i (by omega) h
    · rw [List.getElem?_append_right (by omega)] at h
      by_cases e : keys[m]? = some (k : Int)
      · rw [if_pos e] at h
        have hlt := (List.getElem?_eq_some_iff.1 h).1
        simp at hlt
        have hj' : j = (kidsTo keys m k).length := by omega
        rw [hj', Nat.sub_self] at h
        have : m = i := by simpa using h
        subst this
        refine ⟨e, ?_⟩
        rw [hj', kidsTo_len keys k m (by omega)]
      · rw [if_neg e] at h; simp at h
theorem kids_at {keys : List Int} {k j i : Nat} (h : (kids keys k)[j]? = some i) : keys[i]? = some (k : Int) ∧ cn keys i k = j := kidsTo_at keys k _ j i (Nat.le_refl _) h
theorem mem_kids {keys : List Int} {k i : Nat} : i ∈ kids keys k ↔ keys[i]? = some (k : Int) := by
  unfold kids kidsTo
  rw [List.mem_filter, List.mem_range]
  simp
  intro h
  exact (List.getElem?_eq_some_iff.1 h).1
theorem kids_nodup (keys : List Int) (k : Nat) : (kids keys k).Nodup := List.nodup_range.filter _
theorem kids_cell {keys : List Int} {n k : Nat} {S M : List Int} {w : World} {gM : Nat} (h : Grouped keys n S M) (hM : Blk w gM (M.map iI)) (hk : k < n) {j i : Nat} (hj : (kids keys k)[j]? = some i) : w.cell? ⟨gM, off keys k + j, none⟩ = some (iv i) := by
  obtain ⟨h1, h2⟩ := kids_at hj
  have h3 := h.2.2.2 i k hk h1
  unfold slot at h3
  rw [h2] at h3
  exact cell_iI hM h3

/-! ### ranks -/
theorem par_cases (P : List Int) (b : Nat) : par P b = -1 ∨ ∃ z, P[b]? = some z ∧ par P b = z := by
  unfold par
  rw [if_neg (by omega)]
  show (P[((b : Int)).toNat]?).getD (-1) = -1 ∨ _
  simp only [Int.toNat_natCast]
  cases h : P[b]? with
  | none => left; rfl
  | some z => right; exact ⟨z, rfl, rfl⟩
theorem above_rank {P : List Int} {rank : Nat → Nat} (hR : Rng P) (hrk : Ranked P rank) : ∀ (m a b : Nat), up P (m + 1) b = a → rank a < rank b
  | 0, a, b, h => by
    rcases par_cases P b with h' | ⟨z, hz, hp⟩
    · have : par P b = a := h
      omega
    · have : par P b = a := h
      rw [hp] at this
      exact hrk b a (by rw [hz, this])
  | m + 1, a, b, h => by
    have h1 : up P (m + 1) (par P b) = a := h
    rcases par_cases P b with h' | ⟨z, hz, hp⟩
    · rw [h'] at h1
      have := up_neg P (m + 1) (-1) (by decide)
      omega
    · rcases hR b z hz with rfl | ⟨p, rfl, hpl⟩
      · rw [hp] at h1
        have := up_neg P (m + 1) (-1) (by decide)
        omega
      · rw [hp] at h1
        have := above_rank hR hrk m a p h1
        have := hrk b p hz
        omega
theorem Above.rank {P : List Int} {rank : Nat → Nat} (hR : Rng P) (hrk : Ranked P rank) {a b : Nat} (h : Above P a b) : rank a < rank b := by
  obtain ⟨m, hm⟩ := h; exact above_rank hR hrk m a b hm

/-! ### how many different numbers there are below n -/
theorem nodup_bound : ∀ (n : Nat) (l : List Nat), l.Nodup → (∀ x ∈ l, x < n) → l.length ≤ n
  | 0, l, _, h => by
    cases l with
    | nil => simp
    | cons x r => exact absurd (h x (by simp)) (Nat.not_lt_zero _)
  | n + 1, l, hd, h => by
    have h1 := nodup_bound n (l.erase n) (hd.erase n) (by
      intro x hx
      have := (hd.mem_erase_iff).1 hx
      have := h x this.2
      omega)
    rw [List.length_erase] at h1
    split at h1 <;> omega
theorem not_mem_take {l : List Nat} (hd : l.Nodup) {k x : Nat} (h : l[k]? = some x) : x ∉ l.take k := by
  have hk := (List.getElem?_eq_some_iff.1 h).1
  have e := (List.getElem?_eq_some_iff.1 h).2
  have h2 : l = l.take k ++ x :: l.drop (k + 1) := by
    rw [← e, ← List.drop_eq_getElem_cons hk, List.take_append_drop]
  rw [h2] at hd
  have := (List.nodup_append.1 hd).2.2
  intro hm
  exact this x hm x (by simp) rfl

/-- The queue, its first k done. -/
structure Bfs (P : List Int) (top k : Nat) (Q : List Nat) : Prop where
  eq : Q = top :: (Q.take k).flatMap (kids P)
  nd : Q.Nodup
  lt : ∀ q ∈ Q, q < P.length
  below : ∀ q ∈ Q, q = top ∨ Above P top q
  k : k ≤ Q.length
theorem Bfs.len {P : List Int} {top k : Nat} {Q : List Nat} (h : Bfs P top k Q) : Q.length ≤ P.length := nodup_bound _ _ h.nd h.lt
theorem Bfs.start (P : List Int) {top : Nat} (h : top < P.length) : Bfs P top 0 [top] := ⟨by simp, by simp, by simp [h], by simp, by simp⟩
theorem Bfs.step {P : List Int} {rank : Nat → Nat} {top k q : Nat} {Q : List Nat} (h : Bfs P top k Q) (hR : Rng P) (hrk : Ranked P rank) (hq : Q[k]? = some q) : Bfs P top (k + 1) (Q ++ kids P q) := by
  have hk := (List.getElem?_eq_some_iff.1 hq).1
  have hqm := List.mem_of_getElem? hq
  have hab : ∀ c, c ∈ kids P q → Above P top c := by
    intro c hc
    rw [above_iff, par_at (mem_kids.1 hc)]
    rcases h.below q hqm with e | e
    · exact Or.inl (by rw [e])
    · exact Or.inr e
  refine ⟨?_, ?_, ?_, ?_, ?_⟩
  · have e1 : (Q ++ kids P q).take (k + 1) = Q.take k ++ [q] := by
      rw [List.take_append_of_le_length (by omega), List.take_succ_eq_append_getElem hk, (List.getElem?_eq_some_iff.1 hq).2]
    rw [e1, List.flatMap_append]
    have e2 := h.eq
    simp only [List.flatMap_cons, List.flatMap_nil, List.append_nil]
    rw [← List.cons_append, ← e2]
  · rw [List.nodup_append]
    refine ⟨h.nd, kids_nodup P q, ?_⟩
    intro a ha b hb hab'
    subst hab'
    have hpa := mem_kids.1 hb
    rw [h.eq] at ha
    rcases List.mem_cons.1 ha with e | e
    · subst e
      have r1 := hrk a q hpa
      rcases h.below q hqm with e' | e'
      · rw [e'] at r1; omega
      · have := e'.rank hR hrk; omega
    · obtain ⟨x, hx, hc⟩ := List.mem_flatMap.1 e
      have := mem_kids.1 hc
      rw [hpa] at this
      have e3 : q = x := Int.ofNat.inj (Option.some.inj this)
      exact not_mem_take h.nd hq (by rw [e3]; exact hx)
  · intro c hc
    rcases List.mem_append.1 hc with e | e
    · exact h.lt c e
    · exact (List.getElem?_eq_some_iff.1 (mem_kids.1 e)).1
  · intro c hc
    rcases List.mem_append.1 hc with e | e
    · exact h.below c e
    · exact Or.inr (hab c e)
  · simp; omega
/-- The whole of it. -/
structure Sub (P : List Int) (top : Nat) (Q : List Nat) : Prop where
  eq : Q = top :: Q.flatMap (kids P)
  nd : Q.Nodup
  lt : ∀ q ∈ Q, q < P.length
  below : ∀ q ∈ Q, q = top ∨ Above P top q
theorem Bfs.done {P : List Int} {top : Nat} {Q : List Nat} (h : Bfs P top Q.length Q) : Sub P top Q := ⟨by have := h.eq; rw [List.take_length] at this; exact this, h.nd, h.lt, h.below⟩
end Go.Proofs.Qxb6609292a
