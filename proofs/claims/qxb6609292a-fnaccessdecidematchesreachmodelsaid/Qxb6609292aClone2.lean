/-
  slices.Clone once more, seat b6609292a: at length 0; at []string; records (laid by a script of this seat's).
-/
import Derived.Test.Qxb6609292aMaps
set_option linter.unusedVariables false
set_option linter.unusedSimpArgs false
namespace Go.Proofs.Qxb6609292a
open Go.RowKit Go.Maps Go.Lib


set_option maxRecDepth 100000 in
theorem cloneZero37 (a : Addr) (c : Nat) (w : World) :
    Calls Try.prog 37 #[.slice (some a) 0 c] w fun e w' => ∃ v', e = .returned v' ∧ w'.ownsRow w.heap.size 97 4 v' 0 [] ∧ Ext w w' := by
  obtain ⟨i0, hi, hz0, hz1, hz2⟩ := info_parts Try.infos97
  have q := fun (w : World) (a : Option Addr) (n c : Nat) => Go.run_eql_slice_nil (P := Try.prog) w 41 97 a n c Try.underlying41
  go_enter Try.func37, Try.ntmps37
  go_wp2_with (at_builtin; refine wpList_append_own _ rfl (.tmp 5) (.tmp 6) 41 rfl w.heap.size 97 i0 (.agg #[.string ⟨#[]⟩, .string ⟨#[]⟩, .string ⟨#[]⟩, .map none]) 4 56 Try.underlying41 hi hz0 hz1 hz2 rfl (by decide) (.slice (some ⟨w.heap.size, 0, none⟩) 0 0) 0 [] rfl (World.ownsRow_made w #[] 0 (Nat.le_refl _) (Nat.zero_le _) rfl) a 0 c [] rfl rfl (by intro j u hj; simp at hj) (by intro u hu; simp at hu) (by unfold maxLen; omega) (by omega) (by simp) ?_; intro v' w1 hown hgrow hnil)
  go_ret
  exact ⟨v', rfl, by simpa using hown, ((Below.refl _ w).alloc (Nat.le_refl _) _).grown hgrow (by simp) (by intro k hk; simp [Value.ownBlock] at hk; omega)⟩
/-- Whatever the slice's address. -/
theorem cloneRoles (v : Value) (rows : List (List Value)) (w : World) (h : RowsAt w v 4 rows) (hn : rows.length ≤ 1048576) (hc : ∀ x ∈ rows, x.length = 4) (h1 : ∀ x ∈ rows, ∀ u ∈ x, u.oneCell' = true) :
    Calls Try.prog 37 #[v] w fun e w' => ∃ v', e = .returned v' ∧ Cloned w w' 4 rows v' ∧ Ext w w' := by
  cases rows with
  | nil =>
    obtain ⟨ao, cap, rfl, hcap⟩ := h.shape
    cases ao with
    | none => exact cloneRoles_any _ [] w h hn hc h1 (by intro a n cp e; cases e)
    | some ad =>
      refine (cloneZero37 ad cap w).mono ?_
      rintro e w' ⟨v', rfl, ho, he⟩
      exact ⟨v', rfl, cloned_of_own (rows := []) ho, he⟩
  | cons x r =>
    refine cloneRoles_any v (x :: r) w h hn hc h1 ?_
    intro a n cp e
    subst e
    obtain ⟨b, off, ha, _⟩ := rows_flat h hc (by simp)
    cases ha; rfl


set_option maxRecDepth 100000 in
theorem cloneZero38 (a : Addr) (c : Nat) (w : World) :
    Calls Try.prog 38 #[.slice (some a) 0 c] w fun e w' => ∃ v', e = .returned v' ∧ w'.ownsRow w.heap.size 100 2 v' 0 [] ∧ Ext w w' := by
  obtain ⟨i0, hi, hz0, hz1, hz2⟩ := info_parts Try.infos100
  have q := fun (w : World) (a : Option Addr) (n c : Nat) => Go.run_eql_slice_nil (P := Try.prog) w 42 100 a n c Try.underlying42
  go_enter Try.func38, Try.ntmps38
  go_wp2_with (at_builtin; refine wpList_append_own _ rfl (.tmp 5) (.tmp 6) 42 rfl w.heap.size 100 i0 (.agg #[.string ⟨#[]⟩, .slice none 0 0]) 2 40 Try.underlying42 hi hz0 hz1 hz2 rfl (by decide) (.slice (some ⟨w.heap.size, 0, none⟩) 0 0) 0 [] rfl (World.ownsRow_made w #[] 0 (Nat.le_refl _) (Nat.zero_le _) rfl) a 0 c [] rfl rfl (by intro j u hj; simp at hj) (by intro u hu; simp at hu) (by unfold maxLen; omega) (by omega) (by simp) ?_; intro v' w1 hown hgrow hnil)
  go_ret
  exact ⟨v', rfl, by simpa using hown, ((Below.refl _ w).alloc (Nat.le_refl _) _).grown hgrow (by simp) (by intro k hk; simp [Value.ownBlock] at hk; omega)⟩
/-- Whatever the slice's address. -/
theorem cloneUsers (v : Value) (rows : List (List Value)) (w : World) (h : RowsAt w v 2 rows) (hn : rows.length ≤ 1048576) (hc : ∀ x ∈ rows, x.length = 2) (h1 : ∀ x ∈ rows, ∀ u ∈ x, u.oneCell' = true) :
    Calls Try.prog 38 #[v] w fun e w' => ∃ v', e = .returned v' ∧ Cloned w w' 2 rows v' ∧ Ext w w' := by
  cases rows with
  | nil =>
    obtain ⟨ao, cap, rfl, hcap⟩ := h.shape
    cases ao with
    | none => exact cloneUsers_any _ [] w h hn hc h1 (by intro a n cp e; cases e)
    | some ad =>
      refine (cloneZero38 ad cap w).mono ?_
      rintro e w' ⟨v', rfl, ho, he⟩
      exact ⟨v', rfl, cloned_of_own (rows := []) ho, he⟩
  | cons x r =>
    refine cloneUsers_any v (x :: r) w h hn hc h1 ?_
    intro a n cp e
    subst e
    obtain ⟨b, off, ha, _⟩ := rows_flat h hc (by simp)
    cases ha; rfl


set_option maxRecDepth 100000 in
theorem cloneZero39 (a : Addr) (c : Nat) (w : World) :
    Calls Try.prog 39 #[.slice (some a) 0 c] w fun e w' => ∃ v', e = .returned v' ∧ w'.ownsRow w.heap.size 103 5 v' 0 [] ∧ Ext w w' := by
  obtain ⟨i0, hi, hz0, hz1, hz2⟩ := info_parts Try.infos103
  have q := fun (w : World) (a : Option Addr) (n c : Nat) => Go.run_eql_slice_nil (P := Try.prog) w 43 103 a n c Try.underlying43
  go_enter Try.func39, Try.ntmps39
  go_wp2_with (at_builtin; refine wpList_append_own _ rfl (.tmp 5) (.tmp 6) 43 rfl w.heap.size 103 i0 (.agg #[.string ⟨#[]⟩, .string ⟨#[]⟩, .string ⟨#[]⟩, .slice none 0 0, .string ⟨#[]⟩]) 5 88 Try.underlying43 hi hz0 hz1 hz2 rfl (by decide) (.slice (some ⟨w.heap.size, 0, none⟩) 0 0) 0 [] rfl (World.ownsRow_made w #[] 0 (Nat.le_refl _) (Nat.zero_le _) rfl) a 0 c [] rfl rfl (by intro j u hj; simp at hj) (by intro u hu; simp at hu) (by unfold maxLen; omega) (by omega) (by simp) ?_; intro v' w1 hown hgrow hnil)
  go_ret
  exact ⟨v', rfl, by simpa using hown, ((Below.refl _ w).alloc (Nat.le_refl _) _).grown hgrow (by simp) (by intro k hk; simp [Value.ownBlock] at hk; omega)⟩
/-- Whatever the slice's address. -/
theorem cloneShs (v : Value) (rows : List (List Value)) (w : World) (h : RowsAt w v 5 rows) (hn : rows.length ≤ 1048576) (hc : ∀ x ∈ rows, x.length = 5) (h1 : ∀ x ∈ rows, ∀ u ∈ x, u.oneCell' = true) :
    Calls Try.prog 39 #[v] w fun e w' => ∃ v', e = .returned v' ∧ Cloned w w' 5 rows v' ∧ Ext w w' := by
  cases rows with
  | nil =>
    obtain ⟨ao, cap, rfl, hcap⟩ := h.shape
    cases ao with
    | none => exact cloneShs_any _ [] w h hn hc h1 (by intro a n cp e; cases e)
    | some ad =>
      refine (cloneZero39 ad cap w).mono ?_
      rintro e w' ⟨v', rfl, ho, he⟩
      exact ⟨v', rfl, cloned_of_own (rows := []) ho, he⟩
  | cons x r =>
    refine cloneShs_any v (x :: r) w h hn hc h1 ?_
    intro a n cp e
    subst e
    obtain ⟨b, off, ha, _⟩ := rows_flat h hc (by simp)
    cases ha; rfl


theorem cloneRecs_any (w : World) : Calls Try.prog 40 #[.slice none 0 0] w fun e w' => e = .returned (.slice none 0 0) ∧ w = w' := by
  refine (AnyE.slices_Clone_nil Try.cl40 0 0 w).mono ?_
  rintro e w' ⟨rfl, rfl⟩
  exact ⟨rfl, rfl⟩
theorem cloneStrs (v : Value) (l : List ByteArray) (w : World) (h : StrsAt w v l) (hn : l.length ≤ 1048576) :
    Calls Try.prog 42 #[v] w fun e w' => ∃ v', e = .returned v' ∧ Cloned w w' 1 (l.map strRow) v' ∧ Ext w w' := by
  obtain ⟨ao, cap, rfl, hcap⟩ := h.shape
  have hfl : ∀ l : List ByteArray, (l.map strRow).flatten = l.map Value.string := by
    intro l
    induction l with
    | nil => rfl
    | cons x r ih => rw [List.map_cons, List.flatten_cons, ih]; rfl
  cases l with
  | nil =>
    cases ao with
    | none =>
      refine (Try.slices_Clone_string_nil 0 cap w).mono ?_
      rintro e w' ⟨rfl, rfl⟩
      exact ⟨_, rfl, ⟨none, 0, rfl, Nat.le_refl _, fun hne => absurd rfl hne⟩, Ext.refl _⟩
    | some ad =>
      refine (Try.slices_Clone_string_zero ad cap w).mono ?_
      rintro e w' ⟨v', rfl, ho, _, he⟩
      exact ⟨v', rfl, cloned_of_own (rows := []) ho, he⟩
  | cons x r =>
    obtain ⟨b, off, ha, _⟩ := h.at (i := 0) (o := x) rfl
    cases ha
    refine (Try.slices_Clone_string b off (x :: r).length cap (x :: r) w (Nat.le_refl _) (by omega) ?_).mono ?_
    · intro j hj
      obtain ⟨o, ho⟩ := get_at (x :: r) j hj
      obtain ⟨b', off', ha', hc, _⟩ := h.at ho
      cases ha'
      rw [hc, List.getD_eq_getElem?_getD, ho]; rfl
    · rintro e w' ⟨v', rfl, ho, _, he⟩
      refine ⟨v', rfl, cloned_of_own (E := 9) (rows := (x :: r).map strRow) ?_, he⟩
      rw [hfl, List.length_map]
      rw [List.take_length] at ho
      exact ho
end Go.Proofs.Qxb6609292a
