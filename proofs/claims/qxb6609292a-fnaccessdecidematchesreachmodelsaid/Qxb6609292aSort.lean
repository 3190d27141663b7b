/-
  slices.Sort at []string in these texts' words, seat b6609292a.
-/
import Derived.Test.Qxb6609292aTree0
set_option linter.unusedVariables false
set_option linter.unusedSimpArgs false
namespace Go.Proofs.Qxb6609292a
open Go.RowKit Go.Maps Go.Lib Go.Sort

theorem sort_any (g cap : Nat) (l : List ByteArray) (w : World) (hc : ∀ j s, l[j]? = some s → w.cell? ⟨g, j, none⟩ = some (.string s)) (hf : ∀ j, w.frozen? ⟨g, j, none⟩ = false) (hg : g < w.heap.size) (hok : ∀ s ∈ l, okStr s) (hn : l.length ≤ 1048576) :
    Calls Try.prog 54 #[.slice (some ⟨g, 0, none⟩) l.length cap] w fun e w' => e = .returned (.tuple #[]) ∧ w.grownBy w' (some g) ∧ ∀ j, j < l.length → ∃ s, w'.cell? ⟨g, j, none⟩ = some (.string s) ∧ okStr s := by
  have hlen : (l.map fun s => s.data.toList).length = l.length := by simp
  have hH : Holds encStr w g 0 (l.map fun s => s.data.toList).toArray := by
    intro j hj
    have hj' : j < l.length := by simpa using hj
    refine ⟨?_, by rw [Nat.zero_add]; exact hf j⟩
    rw [Nat.zero_add, hc j _ (List.getElem?_eq_getElem hj')]
    have e : (l.map fun s => s.data.toList).toArray[j]! = l[j].data.toList := by
      rw [getElem!_pos _ j hj]; simp
    rw [e]
  have h := Try.slices_Sort_string g 0 cap (l.map fun s => s.data.toList) w hH hg (by rw [hlen]; omega)
  rw [hlen] at h
  refine h.mono ?_
  rintro e w' ⟨rfl, n, os, rfl⟩
  refine ⟨rfl, ⟨rfl, rfl, rfl, ?_, fun k hk hne => ?_⟩, fun j hj => ?_⟩
  · simp [grow, putRow, mapBlock]
  · have hk' : k ≠ g := fun e => hne (by rw [e])
    show (((Go.Sort.ahead w n).heap.modify g (onCells _)) ++ os)[k]? = w.heap[k]?
    rw [Array.getElem?_append_left (by simpa using hk), Array.getElem?_modify, if_neg (fun e => hk' e.symm)]
    rfl
  · have hsz : ((l.map fun s => s.data.toList).mergeSort fun x y => decide (x ≤ y)).toArray.size = (l.map fun s => s.data.toList).toArray.size := by
      simp [List.length_mergeSort]
    have hj2 : j < ((l.map fun s => s.data.toList).mergeSort fun x y => decide (x ≤ y)).toArray.size := by rw [hsz]; simpa using hj
    have hcp := cell?_putRow encStr (Go.Sort.ahead w n) g 0 _ _ (holds_ahead encStr w n g 0 _ hH) hsz j hj2
    rw [Nat.zero_add] at hcp
    refine ⟨⟨(((l.map fun (s : ByteArray) => s.data.toList).mergeSort fun x y => decide (x ≤ y)).toArray[j]!).toArray⟩, ?_, ?_⟩
    · rw [cell?_grow _ _ _ (by simpa using hg)]; exact hcp
    · have hm : ((l.map fun s => s.data.toList).mergeSort fun x y => decide (x ≤ y)).toArray[j]! ∈ (l.map fun s => s.data.toList).mergeSort fun x y => decide (x ≤ y) := by
        rw [getElem!_pos _ j hj2]; simp
      rw [List.mem_mergeSort] at hm
      obtain ⟨s, hs, e⟩ := List.mem_map.1 hm
      rw [← e]
      have := hok s hs
      unfold okStr at this ⊢
      simpa using this
end Go.Proofs.Qxb6609292a
