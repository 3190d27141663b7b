/-
  For the walk of NewTree, seat b6609292a: slices.Contains in these texts' words; Tree.has.
-/
import Derived.Test.Qxb6609292aClone2
set_option linter.unusedVariables false
set_option linter.unusedSimpArgs false
namespace Go.Proofs.Qxb6609292a
open Go.RowKit Go.Maps Go.Lib

theorem contains_any (v : Value) (l : List ByteArray) (s : ByteArray) (w : World) (h : StrsAt w v l) (hn : l.length ≤ 1048576) :
    Calls Try.prog 87 #[v, .string s] w fun e w' => ∃ b : Bool, (b = true ↔ s ∈ l) ∧ e = .returned (.bool b) ∧ w = w' := by
  obtain ⟨ao, cap, rfl, hcap⟩ := h.shape
  cases l with
  | nil =>
    refine (Try.slices_Contains_string_empty ao cap s w).mono ?_
    rintro e w' ⟨rfl, rfl⟩
    exact ⟨false, by simp, rfl, rfl⟩
  | cons x r =>
    obtain ⟨b, off, ha, _⟩ := h.at (i := 0) (o := x) rfl
    cases ha
    refine (Try.slices_Contains_string b off (x :: r).length cap (x :: r) s w (Nat.le_refl _) (by omega) ?_).mono ?_
    · intro j hj
      obtain ⟨o, ho⟩ := get_at (x :: r) j hj
      obtain ⟨b', off', ha', hc, _⟩ := h.at ho
      cases ha'
      rw [hc, List.getD_eq_getElem?_getD, ho]; rfl
    · rintro e w' ⟨rfl, rfl⟩
      exact ⟨_, by rw [List.take_length]; exact containsS_iff _ _, rfl, rfl⟩
set_option maxRecDepth 100000 in
/-- Tree.has: is s an id? -/
theorem has_any (T b n : Nat) (ids : List ByteArray) (s : ByteArray) (w : World) (hc : w.cell? ⟨T, 1, none⟩ = some (.map (some b))) (hm : SM w 3 b n (posF ids ids.length)) (hs : okStr s) :
    Calls Try.prog 59 #[.pointer (some ⟨T, 0, none⟩), .string s] w fun e w' => ∃ q : Bool, (q = true ↔ s ∈ ids) ∧ e = .returned (.bool q) ∧ w = w' := by
  cases hp : idxTo ids ids.length s with
  | none =>
    have hlk := hm.nopos hs hp
    have hni := idx_none_iff.1 hp
    clear hp
    go_enter Try.func59, Try.ntmps59
    go_wp2
    go_ret
    exact ⟨false, by simp [hni], rfl, rfl⟩
  | some p =>
    have hlk := hm.pos hs hp
    have hi := idx_some_mem hp
    clear hp
    go_enter Try.func59, Try.ntmps59
    go_wp2
    go_ret
    exact ⟨true, by simp [hi], rfl, rfl⟩
end Go.Proofs.Qxb6609292a
