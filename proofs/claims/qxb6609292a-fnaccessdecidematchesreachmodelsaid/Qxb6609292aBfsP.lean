/-
  Plain laws for seat b6609292a: the breadth-first order, as bfsCompare tells it.
-/
import Derived.Test.Qxb6609292aSubP
set_option linter.unusedVariables false
set_option linter.unusedSimpArgs false
namespace Go.Proofs.Qxb6609292a
open Go.RowKit Go.Maps

/-- From u up to top there are n steps. -/
def dpt (P : List Int) (top u n : Nat) : Prop := up P n (u : Int) = (top : Int) ∧ ∀ m, m < n → up P m (u : Int) ≠ (top : Int)
theorem dpt_zero {P : List Int} {top u : Nat} : dpt P top u 0 ↔ u = top := by
  constructor
  · intro h; exact Int.ofNat.inj h.1
  · intro h; subst h; exact ⟨rfl, fun m hm => absurd hm (Nat.not_lt_zero _)⟩
theorem dpt_succ {P : List Int} {top u n p : Nat} (hp : P[u]? = some (p : Int)) (hne : u ≠ top) : dpt P top u (n + 1) ↔ dpt P top p n := by
  have e : ∀ m, up P (m + 1) (u : Int) = up P m (p : Int) := fun m => by
    show up P m (par P (u : Int)) = _
    rw [par_at hp]
  constructor
  · rintro ⟨h1, h2⟩
    refine ⟨by rw [← e]; exact h1, fun m hm => ?_⟩
    rw [← e]; exact h2 (m + 1) (by omega)
  · rintro ⟨h1, h2⟩
    refine ⟨by rw [e]; exact h1, fun m hm => ?_⟩
    cases m with
    | zero => intro h; exact hne (Int.ofNat.inj h)
    | succ m => rw [e]; exact h2 m (by omega)
theorem dpt_top {P : List Int} {top n : Nat} (h : dpt P top top n) : n = 0 := by
  cases n with
  | zero => rfl
  | succ n => exact absurd rfl (h.2 0 (by omega))
theorem dpt_one {P : List Int} {top u a b : Nat} (h : dpt P top u a) (h' : dpt P top u b) : a = b := by
  rcases Nat.lt_trichotomy a b with hl | hl | hl
  · exact absurd h.1 (h'.2 a hl)
  · exact hl
  · exact absurd h'.1 (h.2 b hl)
theorem least {p : Nat → Prop} : ∀ n, p n → ∃ k, p k ∧ ∀ m, m < k → ¬ p m := by
  intro n
  induction n using Nat.strongRecOn with
  | ind n ih =>
    intro h
    by_cases hm : ∃ m, m < n ∧ p m
    · obtain ⟨m, h1, h2⟩ := hm
      exact ih m h1 h2
    · exact ⟨n, h, fun m h1 h2 => hm ⟨m, h1, h2⟩⟩

structure BOrd (P : List Int) (top : Nat) (Q : List Nat) : Prop where
  nd : Q.Nodup
  lt : ∀ q ∈ Q, q < P.length
  hd : ∃ R, Q = top :: R
  pa : ∀ u ∈ Q, u ≠ top → ∃ p ∈ Q, P[u]? = some ((p : Nat) : Int)
  ord : ∀ u v pu pv : Nat, u ∈ Q → v ∈ Q → u ≠ top → v ≠ top → pu ∈ Q → pv ∈ Q → P[u]? = some (pu : Int) → P[v]? = some (pv : Int) → Q.idxOf pu < Q.idxOf pv → Q.idxOf u < Q.idxOf v
  sib : ∀ u v p : Nat, u ∈ Q → v ∈ Q → u ≠ top → v ≠ top → p ∈ Q → P[u]? = some (p : Int) → P[v]? = some (p : Int) → u < v → Q.idxOf u < Q.idxOf v
  dp : ∀ u ∈ Q, ∃ n, dpt P top u n
theorem bord_one (P : List Int) {top : Nat} (h : top < P.length) : BOrd P top [top] where
  nd := by simp
  lt := by simp [h]
  hd := ⟨[], rfl⟩
  pa := fun u hu hne => absurd (by simpa using hu) hne
  ord := fun u v pu pv hu hv h1 => absurd (by simpa using hu) h1
  sib := fun u v p hu hv h1 => absurd (by simpa using hu) h1
  dp := fun u hu => ⟨0, dpt_zero.2 (by simpa using hu)⟩
theorem idx_split {Q A B : List Nat} (e : Q = A ++ B) (hn : Q.Nodup) {u v : Nat} (hu : u ∈ A) (hv : v ∈ B) : Q.idxOf u < Q.idxOf v := by
  subst e
  have hva : v ∉ A := fun h => (List.nodup_append.1 hn).2.2 v h v hv rfl
  rw [List.idxOf_append, List.idxOf_append, if_pos hu, if_neg hva]
  have := List.idxOf_lt_length_of_mem hu
  omega
theorem mem_take_idx {Q : List Nat} {a : Nat} {n : Nat} (h : Q.idxOf a < n) (ha : a ∈ Q) : a ∈ Q.take n := by
  have hl := List.idxOf_lt_length_of_mem ha
  have : (Q.take n)[Q.idxOf a]? = some a := by
    rw [List.getElem?_take, if_pos h, List.getElem?_eq_getElem hl, List.getElem_idxOf]
  exact List.mem_of_getElem? this
theorem mem_drop_idx {Q : List Nat} {a : Nat} (ha : a ∈ Q) : Q.drop (Q.idxOf a) = a :: Q.drop (Q.idxOf a + 1) := by
  have hl := List.idxOf_lt_length_of_mem ha
  rw [List.drop_eq_getElem_cons hl, List.getElem_idxOf]
theorem kids_split (P : List Int) (p v : Nat) (hv : v < P.length) : kids P p = (List.range v).filter (fun i => decide (P[i]? = some (p : Int))) ++ ((List.range' v (P.length - v)).filter fun i => decide (P[i]? = some (p : Int))) := by
  unfold kids kidsTo
  rw [← List.filter_append]
  congr 1
  rw [List.range_eq_range', List.range_eq_range']
  have := List.range'_append_1 (s := 0) (m := v) (n := P.length - v)
  rw [Nat.zero_add] at this
  rw [this]
  congr 1
  omega
theorem Sub.bord {P : List Int} {top : Nat} {Q : List Nat} (h : Sub P top Q) : BOrd P top Q where
  nd := h.nd
  lt := h.lt
  hd := ⟨_, h.eq⟩
  pa := by
    intro u hu hne
    rw [h.eq] at hu
    rcases List.mem_cons.1 hu with e | e
    · exact absurd e hne
    · obtain ⟨p, hp, hk⟩ := List.mem_flatMap.1 e
      exact ⟨p, hp, mem_kids.1 hk⟩
  ord := by
    intro u v pu pv hu hv hut hvt hpu hpv h1 h2 hlt
    have e1 : Q = (top :: (Q.take (Q.idxOf pv)).flatMap (kids P)) ++ (Q.drop (Q.idxOf pv)).flatMap (kids P) := by
      conv => lhs; rw [h.eq]
      rw [List.cons_append, ← List.flatMap_append, List.take_append_drop]
    refine idx_split e1 h.nd ?_ ?_
    · exact List.mem_cons_of_mem _ (List.mem_flatMap.2 ⟨pu, mem_take_idx hlt hpu, mem_kids.2 h1⟩)
    · exact List.mem_flatMap.2 ⟨pv, by rw [mem_drop_idx hpv]; simp, mem_kids.2 h2⟩
  sib := by
    intro u v p hu hv hut hvt hp h1 h2 hlt
    have e1 : Q = (top :: (Q.take (Q.idxOf p)).flatMap (kids P) ++ (List.range v).filter (fun i => decide (P[i]? = some (p : Int)))) ++ (((List.range' v (P.length - v)).filter fun i => decide (P[i]? = some (p : Int))) ++ (Q.drop (Q.idxOf p + 1)).flatMap (kids P)) := by
      conv => lhs; rw [h.eq]
      conv => lhs; rw [← List.take_append_drop (Q.idxOf p) Q, List.flatMap_append]
      rw [mem_drop_idx hp, List.flatMap_cons, kids_split P p v (h.lt v hv)]
      simp
    refine idx_split e1 h.nd ?_ ?_
    · refine List.mem_append.2 (Or.inr (List.mem_filter.2 ⟨List.mem_range.2 hlt, by simp [h1]⟩))
    · refine List.mem_append.2 (Or.inl (List.mem_filter.2 ⟨List.mem_range'_1.2 ⟨Nat.le_refl _, ?_⟩, by simp [h2]⟩))
      have := h.lt v hv
      omega
  dp := by
    intro u hu
    rcases h.below u hu with e | ⟨m, hm⟩
    · exact ⟨0, dpt_zero.2 e⟩
    · obtain ⟨k, h1, h2⟩ := least (p := fun n => up P n (u : Int) = (top : Int)) (m + 1) hm
      exact ⟨k, h1, h2⟩
theorem BOrd.mem {P : List Int} {top : Nat} {Q : List Nat} (h : BOrd P top Q) : top ∈ Q := by obtain ⟨R, e⟩ := h.hd; rw [e]; simp
theorem BOrd.top0 {P : List Int} {top : Nat} {Q : List Nat} (h : BOrd P top Q) : Q.idxOf top = 0 := by obtain ⟨R, e⟩ := h.hd; rw [e]; simp
theorem BOrd.pos {P : List Int} {top : Nat} {Q : List Nat} (h : BOrd P top Q) {u : Nat} (hu : u ≠ top) : 0 < Q.idxOf u := by
  obtain ⟨R, e⟩ := h.hd; rw [e, List.idxOf_cons, show (top == u) = false by simp; exact fun e => hu e.symm]; simp
theorem idx_inj {Q : List Nat} {u v : Nat} (hu : u ∈ Q) (hv : v ∈ Q) (h : Q.idxOf u = Q.idxOf v) : u = v := by
  have h1 := List.getElem_idxOf (List.idxOf_lt_length_of_mem hu)
  have h2 := List.getElem_idxOf (List.idxOf_lt_length_of_mem hv)
  rw [← h1, ← h2]; simp [h]
/-- The deeper is the later. -/
theorem BOrd.deep {P : List Int} {top : Nat} {Q : List Nat} (h : BOrd P top Q) : ∀ (a b u v : Nat), u ∈ Q → v ∈ Q → dpt P top u a → dpt P top v b → a < b → Q.idxOf u < Q.idxOf v
  | 0, b, u, v, hu, hv, h1, h2, hab => by
    have e := dpt_zero.1 h1
    rw [e, h.top0]
    refine h.pos fun e' => ?_
    subst e'
    have := dpt_top h2
    omega
  | a + 1, 0, u, v, hu, hv, h1, h2, hab => by omega
  | a + 1, b + 1, u, v, hu, hv, h1, h2, hab => by
    have hu' : u ≠ top := fun e => by subst e; have := dpt_top h1; omega
    have hv' : v ≠ top := fun e => by subst e; have := dpt_top h2; omega
    obtain ⟨pu, hpu, e1⟩ := h.pa u hu hu'
    obtain ⟨pv, hpv, e2⟩ := h.pa v hv hv'
    exact h.ord u v pu pv hu hv hu' hv' hpu hpv e1 e2 (h.deep a b pu pv hpu hpv ((dpt_succ e1 hu').1 h1) ((dpt_succ e2 hv').1 h2) (by omega))
theorem BOrd.bound {P : List Int} {top : Nat} {Q : List Nat} (h : BOrd P top Q) : ∀ (n u : Nat), u ∈ Q → dpt P top u n → n ≤ Q.idxOf u
  | 0, u, hu, h1 => Nat.zero_le _
  | n + 1, u, hu, h1 => by
    have hu' : u ≠ top := fun e => by subst e; have := dpt_top h1; omega
    obtain ⟨p, hp, e1⟩ := h.pa u hu hu'
    have h2 := (dpt_succ e1 hu').1 h1
    have := h.bound n p hp h2
    have := h.deep n (n + 1) p u hp hu h2 h1 (by omega)
    omega
theorem BOrd.small {P : List Int} {top : Nat} {Q : List Nat} (h : BOrd P top Q) {u n : Nat} (hu : u ∈ Q) (h1 : dpt P top u n) : n ≤ P.length := by
  have h2 := h.bound n u hu h1
  have h3 := List.idxOf_lt_length_of_mem hu
  have h4 := nodup_bound _ _ h.nd h.lt
  omega
/-- One step up from two places at one depth. -/
theorem BOrd.both {P : List Int} {top : Nat} {Q : List Nat} (h : BOrd P top Q) {u v pu pv : Nat} (hu : u ∈ Q) (hv : v ∈ Q) (hut : u ≠ top) (hvt : v ≠ top) (hpu : pu ∈ Q) (hpv : pv ∈ Q) (e1 : P[u]? = some (pu : Int)) (e2 : P[v]? = some (pv : Int)) (hne : pu ≠ pv) :
    Q.idxOf u < Q.idxOf v ↔ Q.idxOf pu < Q.idxOf pv := by
  constructor
  · intro hlt
    rcases Nat.lt_trichotomy (Q.idxOf pu) (Q.idxOf pv) with hl | hl | hl
    · exact hl
    · exact absurd (idx_inj hpu hpv hl) hne
    · have := h.ord v u pv pu hv hu hvt hut hpv hpu e2 e1 hl
      omega
  · exact h.ord u v pu pv hu hv hut hvt hpu hpv e1 e2
end Go.Proofs.Qxb6609292a
