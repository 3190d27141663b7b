/-
  maps.Clone at map[string]Scope, slices.Clone and slices.Contains at []string, seat b6609292a.
-/
import Derived.Test.Qxb6609292aClone
import Derived.Shelf.SlMaps.Clone
set_option linter.unusedVariables false
set_option linter.unusedSimpArgs false
namespace Go.Proofs.Qxb6609292a
open Go.RowKit Go.Maps Go.Lib

def Try.mcl_ren : Go.Shelf.Ren := ⟨fun | 5 => 41 | 7 => 65 | n => n, fun | 4 => 4 | 20 => 20 | 23 => 95 | 25 => 9 | 3 => 53 | n => n, fun | n => n⟩
set_option maxRecDepth 100000 in
theorem Try.mcl : Go.Proofs.SlLaysW.n5 Try.prog Try.mcl_ren := {
  mixed := by kernel_rfl
  f5 := ⟨Try.f41.name, by decide, Try.func41.trans (congrArg some (by kernel_rfl))⟩
  f7 := Try.func65.trans (congrArg some (by kernel_rfl))
  t4 := Try.underlying4
  a4 := Try.isAgg4
  z4 := Try.sizeOf4
  v4 := Try.zeroValue4
  t20 := Try.underlying20
  a20 := Try.isAgg20
  z20 := Try.sizeOf20
  v20 := Try.zeroValue20
  t23 := Try.underlying95
  a23 := Try.isAgg95
  z23 := Try.sizeOf95
  v23 := Try.zeroValue95 }

/-- The copy of a role's map, in a block of its own. -/
theorem mapClone_any (mv : Value) (gs : List Grant) (w : World) (h : MapAt w mv gs) :
    Calls Try.prog 41 #[mv] w fun e w' => ∃ mv', e = .returned mv' ∧ MapIn w' w.heap.size mv' gs ∧ Ext w w' := by
  rcases h with ⟨rfl, rfl⟩ | ⟨b, rfl, D, hD, hf⟩
  · refine (AnyW.maps_Clone_nil Try.mcl w).mono ?_
    rintro e w' ⟨rfl, rfl⟩
    exact ⟨_, rfl, Or.inl ⟨rfl, rfl⟩, Ext.refl _⟩
  · refine (AnyW.maps_Clone_owns Try.mcl 9 (plainElem Try.prog 53) b _ D w hD).mono ?_
    rintro e w' ⟨rfl, ho, _, hB⟩
    exact ⟨_, rfl, Or.inr ⟨_, rfl, Nat.le_refl _, D, ho, hf⟩, hB⟩
end Go.Proofs.Qxb6609292a
