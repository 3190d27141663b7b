/-
  WALKS for seat b6609292a: the budget, fitsWorld.
-/
import Derived.Test.Qxb6609292aWalkE
set_option linter.unusedVariables false
set_option linter.unusedSimpArgs false
namespace Go.Proofs.Qxb6609292a
open Go.RowKit Go.Maps

def Bud (w : World) (g : Nat) : Prop := ∃ (u : Int) (o : Bool), Blk w g [.int .i64 u, .bool o] ∧ 0 ≤ u ∧ u ≤ 1048576

set_option maxRecDepth 100000 in
theorem text_any (g : Nat) (s : ByteArray) (w : World) (h : Bud w g) :
    Calls Try.prog 23 #[.pointer (some ⟨g, 0, none⟩), .string s] w fun e w' => e = .returned (.tuple #[]) ∧ Bud w' g ∧ w.grownBy w' (some g) := by
  obtain ⟨u, o, hb, hu0, hu1⟩ := h
  have c0 : w.cell? ⟨g, 0, none⟩ = some (.int .i64 u) := hb.cell rfl
  have c1 : w.cell? ⟨g, 1, none⟩ = some (.bool o) := hb.cell rfl
  cases o with
  | true =>
    go_enter Try.func23, Try.ntmps23
    go_wp2
    refine bodyPost_ret (results_none rfl _ _ _) rfl ⟨rfl, ⟨u, true, hb, hu0, hu1⟩, World.grownBy.refl _ _⟩
  | false =>
    by_cases hgt : (s.size : Int) > 1048576 - u
    · go_enter Try.func23, Try.ntmps23
      go_wp2_with (refine wpList_st1 _ rfl 4 _ _ rfl g 1 [.int .i64 u, .bool false] (.bool true) rfl hb rfl Try.info4 (by simp) rfl ?_; intro w1 hb1 hg1)
      refine bodyPost_ret (results_none rfl _ _ _) rfl ⟨rfl, ⟨u, true, hb1, hu0, hu1⟩, hg1⟩
    · go_enter Try.func23, Try.ntmps23
      go_wp2_with (refine wpList_st1 _ rfl 3 _ _ rfl g 0 [.int .i64 u, .bool false] (.int .i64 (u + (s.size : Int))) rfl hb rfl Try.info3 (by simp) rfl ?_; intro w1 hb1 hg1)
      go_end0
      exact ⟨rfl, ⟨u + (s.size : Int), false, hb1, by omega, by omega⟩, hg1⟩
set_option maxRecDepth 100000 in
theorem words_any (g : Nat) (n : Nat) (w : World) (h : Bud w g) :
    Calls Try.prog 24 #[.pointer (some ⟨g, 0, none⟩), .int .i64 n] w fun e w' => e = .returned (.tuple #[]) ∧ Bud w' g ∧ w.grownBy w' (some g) := by
  obtain ⟨u, o, hb, hu0, hu1⟩ := h
  have c0 : w.cell? ⟨g, 0, none⟩ = some (.int .i64 u) := hb.cell rfl
  have c1 : w.cell? ⟨g, 1, none⟩ = some (.bool o) := hb.cell rfl
  cases o with
  | true =>
    go_enter Try.func24, Try.ntmps24
    go_wp2
    refine bodyPost_ret (results_none rfl _ _ _) rfl ⟨rfl, ⟨u, true, hb, hu0, hu1⟩, World.grownBy.refl _ _⟩
  | false =>
    by_cases hgt : (n : Int) > (1048576 - u) / 8
    · go_enter Try.func24, Try.ntmps24
      go_wp2_with (refine wpList_st1 _ rfl 4 _ _ rfl g 1 [.int .i64 u, .bool false] (.bool true) rfl hb rfl Try.info4 (by simp) rfl ?_; intro w1 hb1 hg1)
      refine bodyPost_ret (results_none rfl _ _ _) rfl ⟨rfl, ⟨u, true, hb1, hu0, hu1⟩, hg1⟩
    · go_enter Try.func24, Try.ntmps24
      go_wp2_with (refine wpList_st1 _ rfl 3 _ _ rfl g 0 [.int .i64 u, .bool false] (.int .i64 (u + 8 * (n : Int))) rfl hb rfl Try.info3 (by simp) rfl ?_; intro w1 hb1 hg1)
      go_end0
      exact ⟨rfl, ⟨u + 8 * (n : Int), false, hb1, by omega, by omega⟩, hg1⟩
end Go.Proofs.Qxb6609292a
