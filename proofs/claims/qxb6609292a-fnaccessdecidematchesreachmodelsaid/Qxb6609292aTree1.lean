/-
  For the walk of NewTree, seat b6609292a: the callees' contracts at its own sizes; Sort on a cloned slice.
-/
import Derived.Test.Qxb6609292aShares
set_option linter.unusedVariables false
set_option linter.unusedSimpArgs false
namespace Go.Proofs.Qxb6609292a
open Go.RowKit Go.Maps

theorem parL_len (os : List Org) : (parL os).length = os.length := by simp [parL]
theorem firstInCycle_n (os : List Org) (g0 : Nat) (w : World) (hP : Blk w g0 ((parL os).map iI)) (hends : ∀ q : Nat, q < os.length → Ends (parL os) q) (hn : os.length ≤ 1048576) :
    Calls Try.prog 52 #[.slice (some ⟨g0, 0, none⟩) os.length os.length] w fun e w' => e = .returned (.int .i64 (-1)) ∧ Ext w w' := by
  obtain ⟨rank, hrk, _⟩ := ranked_of_ends (P := parL os) (by rw [parL_len]; exact hends)
  have := firstInCycle_any (parL os) rank g0 w hP (rng_parL os) hrk (by rw [parL_len]; exact hn)
  rw [parL_len] at this
  exact this
theorem keys_parL (os : List Org) : KeysOk (parL os) os.length := by
  intro i z hz
  have := rng_parL os i z hz
  rw [parL_len] at this
  exact this
theorem groupBy_n (os : List Org) (g0 : Nat) (w : World) (hP : Blk w g0 ((parL os).map iI)) (hn : os.length ≤ 1048576) :
    Calls Try.prog 53 #[.int .i64 os.length, .slice (some ⟨g0, 0, none⟩) os.length os.length] w (GroupsPost (parL os) os.length w) := by
  have := groupBy_any (parL os) os.length g0 w hP (keys_parL os) hn (by rw [parL_len]; exact hn)
  rw [parL_len] at this
  exact this
/-- Sort on a slice that slices.Clone has made. -/
theorem sortCloned (w0 w : World) (B : Nat) (l : List ByteArray) (a : Option Addr) (cap : Nat) (hcl : l.map strRow ≠ [] → ∃ g cur, a = some ⟨g, 0, none⟩ ∧ B ≤ g ∧ Blk w g cur ∧ cur.take ((l.map strRow).length * 1) = (l.map strRow).flatten) (hok : ∀ s ∈ l, okStr s) (hn : l.length ≤ 1048576) :
    Calls Try.prog 54 #[.slice a l.length cap] w fun e w' => e = .returned (.tuple #[]) ∧ ∃ row, w.grownBy w' row ∧ (∀ k, row = some k → B ≤ k) ∧ ∀ j, j < l.length → ∃ g s, a = some ⟨g, 0, none⟩ ∧ w'.cell? ⟨g, j, none⟩ = some (.string s) ∧ okStr s := by
  cases l with
  | nil =>
    refine (Try.slices_Sort_string_none a cap w).mono ?_
    rintro e w' ⟨rfl, rfl⟩
    exact ⟨rfl, none, World.grownBy.refl _ _, (fun k hk => by cases hk), fun j hj => absurd hj (Nat.not_lt_zero _)⟩
  | cons x r =>
    obtain ⟨g, cur, rfl, hB, hb, htake⟩ := hcl (by simp)
    refine (sort_any g cap (x :: r) w ?_ hb.frozen hb.lt hok hn).mono ?_
    · intro j s hj
      have hfl : ∀ l : List ByteArray, (l.map strRow).flatten = l.map Value.string := by
        intro l
        induction l with
        | nil => rfl
        | cons x r ih => rw [List.map_cons, List.flatten_cons, ih]; rfl
      rw [hfl, List.length_map, Nat.mul_one] at htake
      have hj' := (List.getElem?_eq_some_iff.1 hj).1
      refine hb.cell ?_
      have e : (cur.take (x :: r).length)[j]? = some (.string s) := by rw [htake, List.getElem?_map, hj]; rfl
      rw [List.getElem?_take_of_lt hj'] at e
      exact e
    · rintro e w' ⟨rfl, hg, hs⟩
      refine ⟨rfl, some g, hg, (fun k hk => by cases hk; exact hB), fun j hj => ?_⟩
      obtain ⟨s, hs1, hs2⟩ := hs j hj
      exact ⟨g, s, rfl, hs1, hs2⟩
end Go.Proofs.Qxb6609292a
