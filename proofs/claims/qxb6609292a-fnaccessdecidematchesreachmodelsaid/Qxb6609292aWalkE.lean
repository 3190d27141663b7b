/-
  For the walk of wantOf, seat b6609292a: small laws, and what 'valid' says.
-/
import Derived.Test.Qxb6609292aWalkD
set_option linter.unusedVariables false
namespace Go.Proofs.Qxb6609292a
open Go.RowKit Go.Maps
theorem Try.infos9 : (Try.prog.info? 9).map (fun i => (i.zero, i.size, i.bytes)) = some (some (.string ⟨#[]⟩), 1, 16) := by kernel_rfl
def sV (s : ByteArray) : Value := .string s
theorem strs_of_blk {w : World} {g : Nat} {l : List ByteArray} (hb : Blk w g (l.map sV)) (hok : ∀ s ∈ l, okStr s) : StrsAt w (.slice (some ⟨g, 0, none⟩) l.length l.length) l := by
  refine ⟨hb.rows (by simp) ?_, hok⟩
  intro i x hx j u hu
  rw [List.getElem?_map] at hx
  cases h : l[i]? with
  | none => rw [h] at hx; cases hx
  | some s =>
    rw [h] at hx
    cases hx
    match j, hu with
    | 0, hu =>
      cases hu
      rw [Nat.mul_one, Nat.add_zero, List.getElem?_map, h]; rfl
/-- The ids gathered into a slice. -/
theorem strs_gather {α : Type} {w : World} {g : Nat} {l : List α} {f : α → ByteArray} {xs : List Value} (hb : Blk w g xs) (hxl : xs.length = l.length) (hx : xs.take l.length = ((l.map f).take l.length).map sV) (hok : ∀ o ∈ l, okStr (f o)) :
    StrsAt w (.slice (some ⟨g, 0, none⟩) l.length l.length) (l.map f) := by
  have e2 : (l.map f).take l.length = l.map f := by
    have : l.length = (l.map f).length := by simp
    rw [this, List.take_length]
  rw [← hxl, List.take_length, hxl, e2] at hx
  rw [hx] at hb
  have := strs_of_blk hb (by intro s hs; obtain ⟨o, ho', rfl⟩ := List.mem_map.1 hs; exact hok o ho')
  simpa using this
theorem gather_succ {α : Type} {l : List α} {f : α → ByteArray} {xs : List Value} {k : Nat} {o : α} (h : l[k]? = some o) (hxl : xs.length = l.length) (hx : xs.take k = ((l.map f).take k).map sV) :
    (xs.set k (sV (f o))).take (k + 1) = ((l.map f).take (k + 1)).map sV := by
  have hk : k < l.length := (List.getElem?_eq_some_iff.1 h).1
  rw [take_set_succ _ _ _ (by omega), map_take_succ sV (o := f o) (by rw [List.getElem?_map, h]; rfl), hx]
def Z32 : List Value := [.int .i64 0, .int .i64 0, .string ⟨#[]⟩, .string ⟨#[]⟩, .string ⟨#[]⟩, .string ⟨#[]⟩, .string ⟨#[]⟩, .int .i64 0]
theorem z8 {w : World} {g : Nat} (h : Blk w g Z32) : w.cell? ⟨g, 0, none⟩ = some (.int .i64 0) ∧ w.cell? ⟨g, 1, none⟩ = some (.int .i64 0) ∧ w.cell? ⟨g, 2, none⟩ = some (.string ⟨#[]⟩) ∧ w.cell? ⟨g, 3, none⟩ = some (.string ⟨#[]⟩) ∧ w.cell? ⟨g, 4, none⟩ = some (.string ⟨#[]⟩) ∧
    w.cell? ⟨g, 5, none⟩ = some (.string ⟨#[]⟩) ∧ w.cell? ⟨g, 6, none⟩ = some (.string ⟨#[]⟩) ∧ w.cell? ⟨g, 7, none⟩ = some (.int .i64 0) ∧ ∀ i : Nat, w.frozen? ⟨g, i, none⟩ = false :=
  ⟨h.cell rfl, h.cell rfl, h.cell rfl, h.cell rfl, h.cell rfl, h.cell rfl, h.cell rfl, h.cell rfl, h.frozen⟩
theorem Ext.set8 {w w1 : World} (h : Ext w w1) (x0 x1 x2 x3 x4 x5 x6 x7 : Value) :
    Ext w ((((((((w1.setCell ⟨w.heap.size, 0, none⟩ x0).setCell ⟨w.heap.size, 1, none⟩ x1).setCell ⟨w.heap.size, 2, none⟩ x2).setCell ⟨w.heap.size, 3, none⟩ x3).setCell ⟨w.heap.size, 4, none⟩ x4).setCell ⟨w.heap.size, 5, none⟩ x5).setCell ⟨w.heap.size, 6, none⟩ x6).setCell ⟨w.heap.size, 7, none⟩ x7) :=
  (((((((h.setCell (Nat.le_refl _) _).setCell (Nat.le_refl _) _).setCell (Nat.le_refl _) _).setCell (Nat.le_refl _) _).setCell (Nat.le_refl _) _).setCell (Nat.le_refl _) _).setCell (Nat.le_refl _) _).setCell (Nat.le_refl _) _
theorem ext_st {w wr w' : World} {g : Nat} (h : Ext w wr) (hg : wr.grownBy w' (some g)) (hle : w.heap.size ≤ g) : Ext w w' := grown_ext h hg (by intro k hk; cases hk; exact hle)
theorem Ext.drawn {w w' : World} (h : Ext w w') : Ext w w'.drew := Below.drew h

/-! ### idxTo -/
theorem idx_none {ids : List ByteArray} : ∀ (k : Nat) (s : ByteArray), k ≤ ids.length → (idxTo ids k s = none ↔ s ∉ ids.take k)
  | 0, s, _ => by simp [idxTo]
  | k + 1, s, hk => by
    obtain ⟨o, ho⟩ := get_at ids k (by omega)
    have hm := mem_take_succ (x := s) ho
    unfold idxTo
    by_cases e : ids[k]? = some s
    · rw [if_pos e, hm]
      have : s = o := by rw [ho] at e; exact (Option.some.inj e).symm
      simp [this]
    · rw [if_neg e, idx_none k s (by omega), hm]
      constructor
      · rintro h1 (h2 | h2)
        · exact h1 h2
        · rw [h2] at e; exact e ho
      · intro h1 h2; exact h1 (Or.inl h2)
theorem idx_some {ids : List ByteArray} : ∀ (k : Nat) (s : ByteArray) (p : Nat), idxTo ids k s = some p → ids[p]? = some s ∧ p < k
  | 0, s, p, h => by simp [idxTo] at h
  | k + 1, s, p, h => by
    unfold idxTo at h
    by_cases e : ids[k]? = some s
    · rw [if_pos e] at h; cases h; exact ⟨e, Nat.lt_succ_self _⟩
    · rw [if_neg e] at h
      have := idx_some k s p h
      exact ⟨this.1, by omega⟩
theorem idx_none_iff {ids : List ByteArray} {s : ByteArray} : idxTo ids ids.length s = none ↔ s ∉ ids := by
  rw [idx_none _ _ (Nat.le_refl _), List.take_length]
theorem idx_some_mem {ids : List ByteArray} {s : ByteArray} {p : Nat} (h : idxTo ids ids.length s = some p) : s ∈ ids := List.mem_of_getElem? (idx_some _ _ _ h).1
theorem rng_parL (l : List Org) : Rng (parL l) := by
  intro q z hq
  unfold parL at hq
  rw [List.getElem?_map] at hq
  cases h : l[q]? with
  | none => rw [h] at hq; cases hq
  | some o =>
    rw [h] at hq
    have hz : parOf (l.map Org.id) o = z := Option.some.inj hq
    unfold parOf at hz
    split at hz
    · exact Or.inl hz.symm
    · split at hz
      · rename_i p hp
        right
        refine ⟨p, hz.symm, ?_⟩
        have := (idx_some _ _ _ hp).2
        simpa [parL] using this
      · exact Or.inl hz.symm

structure Valid (os : List Org) (rs : List Role) (us : List User) (ss : List Share) : Prop where
  oid : IdsOk (os.map Org.id)
  opar : ∀ o ∈ os, o.parent = ⟨#[]⟩ ∨ o.parent ∈ os.map Org.id
  ends : ∀ q : Nat, q < os.length → Ends (parL os) q
  rid : IdsOk (rs.map Role.id)
  uid : IdsOk (us.map User.id)
  sid : IdsOk (ss.map Share.id)
  rorg : ∀ r ∈ rs, r.org ∈ os.map Org.id ∧ ∀ g ∈ r.grants, g.scope = 0 ∨ g.scope = 1
  urole : ∀ u ∈ us, ∀ x ∈ u.roles, x ∈ rs.map Role.id
  sref : ∀ s ∈ ss, s.owner ∈ os.map Org.id ∧ s.dest ∈ os.map Org.id ∧ (s.by_ = ⟨#[]⟩ ∨ s.by_ ∈ us.map User.id)

theorem hasCycle_n (P : List Int) (n : Nat) (hPn : P.length = n) (g0 : Nat) (w : World) (hP : Blk w g0 (P.map iI)) (hR : Rng P) (hn : n ≤ 1048576) :
    Calls Try.prog 26 #[.slice (some ⟨g0, 0, none⟩) n n] w fun e w' => ∃ b : Bool, (b = false → ∀ q : Nat, q < n → Ends P q) ∧ e = .returned (.bool b) ∧ Ext w w' := by
  subst hPn; exact hasCycle_any P g0 w hP hR hn
theorem int_test (a b : Int) : ((a == b) = true ∧ Hid (a = b)) ∨ ((a == b) = false ∧ a ≠ b) := by
  by_cases h : a = b
  · left; exact ⟨by simp [h], h⟩
  · right; exact ⟨by simp [h], h⟩
theorem ne_test (a b : Int) : ((a != b) = false ∧ Hid (a = b)) ∨ ((a != b) = true ∧ a ≠ b) := by
  by_cases h : a = b
  · left; exact ⟨by simp [h], h⟩
  · right; exact ⟨by simp [h], h⟩
end Go.Proofs.Qxb6609292a
