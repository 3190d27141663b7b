/-
  slices.Clone at each type, seat b6609292a (laid by a script of this seat's, after the shelf's laying at []string).
-/
import Derived.Test.Qxb6609292aShelf
import Derived.Test.Qxb6609292aGroups
set_option linter.unusedVariables false
set_option linter.unusedSimpArgs false
namespace Go.Proofs.Qxb6609292a
open Go.RowKit Go.Maps Go.Lib

def Try.cl37_ren : Go.Shelf.Ren := ⟨fun | 41 => 37 | n => n, fun | 22 => 41 | 23 => 97 | 4 => 4 | n => n, fun | n => n⟩
set_option maxRecDepth 100000 in
theorem Try.cl37 : Go.Proofs.SlLaysE0.n41 Try.prog Try.cl37_ren := {
  mixed := by kernel_rfl
  f41 := ⟨Try.f37.name, by decide, Try.func37.trans (congrArg some (by kernel_rfl))⟩
  t4 := Try.underlying4
  a4 := Try.isAgg4
  z4 := Try.sizeOf4
  v4 := Try.zeroValue4
  t22 := Try.underlying41
  a22 := Try.isAgg41
  z22 := Try.sizeOf41
  v22 := Try.zeroValue41 }

def Try.cl38_ren : Go.Shelf.Ren := ⟨fun | 41 => 38 | n => n, fun | 22 => 42 | 23 => 100 | 4 => 4 | n => n, fun | n => n⟩
set_option maxRecDepth 100000 in
theorem Try.cl38 : Go.Proofs.SlLaysE0.n41 Try.prog Try.cl38_ren := {
  mixed := by kernel_rfl
  f41 := ⟨Try.f38.name, by decide, Try.func38.trans (congrArg some (by kernel_rfl))⟩
  t4 := Try.underlying4
  a4 := Try.isAgg4
  z4 := Try.sizeOf4
  v4 := Try.zeroValue4
  t22 := Try.underlying42
  a22 := Try.isAgg42
  z22 := Try.sizeOf42
  v22 := Try.zeroValue42 }

def Try.cl39_ren : Go.Shelf.Ren := ⟨fun | 41 => 39 | n => n, fun | 22 => 43 | 23 => 103 | 4 => 4 | n => n, fun | n => n⟩
set_option maxRecDepth 100000 in
theorem Try.cl39 : Go.Proofs.SlLaysE0.n41 Try.prog Try.cl39_ren := {
  mixed := by kernel_rfl
  f41 := ⟨Try.f39.name, by decide, Try.func39.trans (congrArg some (by kernel_rfl))⟩
  t4 := Try.underlying4
  a4 := Try.isAgg4
  z4 := Try.sizeOf4
  v4 := Try.zeroValue4
  t22 := Try.underlying43
  a22 := Try.isAgg43
  z22 := Try.sizeOf43
  v22 := Try.zeroValue43 }

def Try.cl40_ren : Go.Shelf.Ren := ⟨fun | 41 => 40 | n => n, fun | 22 => 44 | 23 => 106 | 4 => 4 | n => n, fun | n => n⟩
set_option maxRecDepth 100000 in
theorem Try.cl40 : Go.Proofs.SlLaysE0.n41 Try.prog Try.cl40_ren := {
  mixed := by kernel_rfl
  f41 := ⟨Try.f40.name, by decide, Try.func40.trans (congrArg some (by kernel_rfl))⟩
  t4 := Try.underlying4
  a4 := Try.isAgg4
  z4 := Try.sizeOf4
  v4 := Try.zeroValue4
  t22 := Try.underlying44
  a22 := Try.isAgg44
  z22 := Try.sizeOf44
  v22 := Try.zeroValue44 }


/-- What a cloned slice is. -/
def Cloned (w w' : World) (c : Nat) (rows : List (List Value)) (v : Value) : Prop := ∃ a cap, v = .slice a rows.length cap ∧ rows.length ≤ cap ∧ (rows ≠ [] → ∃ g cur, a = some ⟨g, 0, none⟩ ∧ w.heap.size ≤ g ∧ Blk w' g cur ∧ cur.take (rows.length * c) = rows.flatten)
theorem cloned_of_own {w w' : World} {E c : Nat} {v : Value} {rows : List (List Value)} (h : w'.ownsRow w.heap.size E c v rows.length rows.flatten) : Cloned w w' c rows v := by
  rcases h.2 with ⟨hv, h0⟩ | ⟨g, cap, cur, hv, hb, hg, hnc, hcm, hcs, htake⟩
  · exact ⟨none, 0, by rw [hv, h0], by omega, fun hne => absurd (List.length_eq_zero_iff.1 h0) hne⟩
  · exact ⟨_, cap, hv, hnc, fun _ => ⟨g, cur.toList, rfl, hb, ⟨E, by rw [hg]⟩, htake⟩⟩
theorem rows_flat {w : World} {ao : Option Addr} {n cap c : Nat} {rows : List (List Value)} (h : RowsAt w (.slice ao n cap) c rows) (hc : ∀ x ∈ rows, x.length = c) (hne : rows ≠ []) :
    ∃ b off, ao = some ⟨b, off, none⟩ ∧ ∀ j u, rows.flatten[j]? = some u → w.cell? ⟨b, off + j, none⟩ = some u := by
  obtain ⟨ao', cap', hv, _, h2⟩ := h
  simp only [Value.slice.injEq] at hv
  obtain ⟨rfl, _, _⟩ := hv
  obtain ⟨b, off, ha, h3⟩ := h2 hne
  refine ⟨b, off, ha, fun j u hj => ?_⟩
  have key : ∀ (rows : List (List Value)), (∀ x ∈ rows, x.length = c) → ∀ j u, rows.flatten[j]? = some u → ∃ i x k, rows[i]? = some x ∧ x[k]? = some u ∧ j = i * c + k := by
    intro rows
    induction rows with
    | nil => intro _ j u h; simp at h
    | cons x r ih =>
      intro hc j u h
      rw [List.flatten_cons] at h
      by_cases hlt : j < x.length
      · rw [List.getElem?_append_left hlt] at h
        exact ⟨0, x, j, rfl, h, by simp⟩
      · rw [List.getElem?_append_right (by omega)] at h
        obtain ⟨i, y, k, h1, h2, h3⟩ := ih (fun y hy => hc y (List.mem_cons_of_mem _ hy)) _ _ h
        refine ⟨i + 1, y, k, h1, h2, ?_⟩
        have := hc x (List.mem_cons_self ..)
        rw [Nat.succ_mul]; omega
  obtain ⟨i, x, k, h4, h5, h6⟩ := key rows hc j u hj
  have := h3 i x h4 k u h5
  rw [h6, ← Nat.add_assoc]; exact this
theorem flat_len {c : Nat} : ∀ (rows : List (List Value)), (∀ x ∈ rows, x.length = c) → rows.flatten.length = rows.length * c
  | [], _ => by simp
  | x :: r, h => by
    rw [List.flatten_cons, List.length_append, flat_len r (fun y hy => h y (List.mem_cons_of_mem _ hy)), h x (List.mem_cons_self ..), List.length_cons, Nat.succ_mul]; omega


theorem cloneRoles_any (v : Value) (rows : List (List Value)) (w : World) (h : RowsAt w v 4 rows) (hn : rows.length ≤ 1048576) (hc : ∀ x ∈ rows, x.length = 4) (h1 : ∀ x ∈ rows, ∀ u ∈ x, u.oneCell' = true) (hsp : ∀ a n cp, v = .slice (some a) n cp → a.spot = none) :
    Calls Try.prog 37 #[v] w fun e w' => ∃ v', e = .returned v' ∧ Cloned w w' 4 rows v' ∧ Ext w w' := by
  obtain ⟨ao, cap, rfl, hcap⟩ := h.shape
  obtain ⟨i0, hi, hz0, hz1, hz2⟩ := info_parts Try.infos97
  cases ao with
  | none =>
    refine (AnyE.slices_Clone_nil Try.cl37 rows.length cap w).mono ?_
    rintro e w' ⟨rfl, rfl⟩
    have hr : rows = [] := by
      cases rows with
      | nil => rfl
      | cons x r => obtain ⟨b, off, ha, _⟩ := rows_flat h hc (by simp); cases ha
    subst hr
    exact ⟨_, rfl, ⟨none, 0, rfl, Nat.le_refl _, fun hne => absurd rfl hne⟩, Ext.refl _⟩
  | some ad =>
    obtain ⟨b, off, sp⟩ := ad
    obtain rfl : sp = none := hsp _ _ _ rfl
    refine (AnyE.slices_Clone Try.cl37 i0 _ 4 56 hi hz0 hz1 hz2 rfl (by decide) Try.sizeOf97 b off rows.length cap rows.flatten w (flat_len rows hc) (by unfold maxLen; omega) (by omega) ?_ ?_).mono ?_
    · intro j u hj
      cases rows with
      | nil => simp at hj
      | cons x r =>
        obtain ⟨b', off', ha, h3⟩ := rows_flat h hc (by simp)
        cases ha
        exact h3 j u hj
    · intro u hu
      obtain ⟨x, hx, hu'⟩ := List.mem_flatten.1 hu
      exact h1 x hx u hu'
    · rintro e w' ⟨v', rfl, ho, _, hb⟩
      exact ⟨v', rfl, cloned_of_own ho, hb⟩


theorem cloneUsers_any (v : Value) (rows : List (List Value)) (w : World) (h : RowsAt w v 2 rows) (hn : rows.length ≤ 1048576) (hc : ∀ x ∈ rows, x.length = 2) (h1 : ∀ x ∈ rows, ∀ u ∈ x, u.oneCell' = true) (hsp : ∀ a n cp, v = .slice (some a) n cp → a.spot = none) :
    Calls Try.prog 38 #[v] w fun e w' => ∃ v', e = .returned v' ∧ Cloned w w' 2 rows v' ∧ Ext w w' := by
  obtain ⟨ao, cap, rfl, hcap⟩ := h.shape
  obtain ⟨i0, hi, hz0, hz1, hz2⟩ := info_parts Try.infos100
  cases ao with
  | none =>
    refine (AnyE.slices_Clone_nil Try.cl38 rows.length cap w).mono ?_
    rintro e w' ⟨rfl, rfl⟩
    have hr : rows = [] := by
      cases rows with
      | nil => rfl
      | cons x r => obtain ⟨b, off, ha, _⟩ := rows_flat h hc (by simp); cases ha
    subst hr
    exact ⟨_, rfl, ⟨none, 0, rfl, Nat.le_refl _, fun hne => absurd rfl hne⟩, Ext.refl _⟩
  | some ad =>
    obtain ⟨b, off, sp⟩ := ad
    obtain rfl : sp = none := hsp _ _ _ rfl
    refine (AnyE.slices_Clone Try.cl38 i0 _ 2 40 hi hz0 hz1 hz2 rfl (by decide) Try.sizeOf100 b off rows.length cap rows.flatten w (flat_len rows hc) (by unfold maxLen; omega) (by omega) ?_ ?_).mono ?_
    · intro j u hj
      cases rows with
      | nil => simp at hj
      | cons x r =>
        obtain ⟨b', off', ha, h3⟩ := rows_flat h hc (by simp)
        cases ha
        exact h3 j u hj
    · intro u hu
      obtain ⟨x, hx, hu'⟩ := List.mem_flatten.1 hu
      exact h1 x hx u hu'
    · rintro e w' ⟨v', rfl, ho, _, hb⟩
      exact ⟨v', rfl, cloned_of_own ho, hb⟩


theorem cloneShs_any (v : Value) (rows : List (List Value)) (w : World) (h : RowsAt w v 5 rows) (hn : rows.length ≤ 1048576) (hc : ∀ x ∈ rows, x.length = 5) (h1 : ∀ x ∈ rows, ∀ u ∈ x, u.oneCell' = true) (hsp : ∀ a n cp, v = .slice (some a) n cp → a.spot = none) :
    Calls Try.prog 39 #[v] w fun e w' => ∃ v', e = .returned v' ∧ Cloned w w' 5 rows v' ∧ Ext w w' := by
  obtain ⟨ao, cap, rfl, hcap⟩ := h.shape
  obtain ⟨i0, hi, hz0, hz1, hz2⟩ := info_parts Try.infos103
  cases ao with
  | none =>
    refine (AnyE.slices_Clone_nil Try.cl39 rows.length cap w).mono ?_
    rintro e w' ⟨rfl, rfl⟩
    have hr : rows = [] := by
      cases rows with
      | nil => rfl
      | cons x r => obtain ⟨b, off, ha, _⟩ := rows_flat h hc (by simp); cases ha
    subst hr
    exact ⟨_, rfl, ⟨none, 0, rfl, Nat.le_refl _, fun hne => absurd rfl hne⟩, Ext.refl _⟩
  | some ad =>
    obtain ⟨b, off, sp⟩ := ad
    obtain rfl : sp = none := hsp _ _ _ rfl
    refine (AnyE.slices_Clone Try.cl39 i0 _ 5 88 hi hz0 hz1 hz2 rfl (by decide) Try.sizeOf103 b off rows.length cap rows.flatten w (flat_len rows hc) (by unfold maxLen; omega) (by omega) ?_ ?_).mono ?_
    · intro j u hj
      cases rows with
      | nil => simp at hj
      | cons x r =>
        obtain ⟨b', off', ha, h3⟩ := rows_flat h hc (by simp)
        cases ha
        exact h3 j u hj
    · intro u hu
      obtain ⟨x, hx, hu'⟩ := List.mem_flatten.1 hu
      exact h1 x hx u hu'
    · rintro e w' ⟨v', rfl, ho, _, hb⟩
      exact ⟨v', rfl, cloned_of_own ho, hb⟩

end Go.Proofs.Qxb6609292a
