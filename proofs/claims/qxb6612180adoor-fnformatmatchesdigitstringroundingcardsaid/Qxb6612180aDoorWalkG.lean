/-
  WALKS for seat b6612180aD: slices.Insert at []byte (one value, there is room), after the guide's text for []int; strconv.AppendUint at base 10 onto a row of whatever label (there is room).
-/
import Derived.Test.Qxb6612180aDoorMem
import Derived.Test.Qxb6612180aDoorShelf
import Derived.Shelf.Spec.SlicesInsert
import Derived.Lib.SmallJoins
set_option linter.unusedVariables false
set_option linter.unusedSimpArgs false
namespace Go.Proofs.Qxb6612180aDoor
open Go.RowKit Go.Lib

/-! ### rows behind 'setCells' -/
def setL : Array Value → Nat → List Value → Array Value
  | cur, _, [] => cur
  | cur, o, v :: r => setL (cur.setIfInBounds o v) (o + 1) r
theorem setL_size : ∀ (vs : List Value) (cur : Array Value) (o : Nat), (setL cur o vs).size = cur.size
  | [], _, _ => rfl
  | v :: r, cur, o => by rw [setL, setL_size r]; simp
theorem setL_get : ∀ (vs : List Value) (cur : Array Value) (o j : Nat), o + vs.length ≤ cur.size → (setL cur o vs)[j]? = if o ≤ j ∧ j < o + vs.length then vs[j - o]? else cur[j]?
  | [], cur, o, j, h => by rw [setL, if_neg (by simp only [List.length_nil]; omega)]
  | v :: r, cur, o, j, h => by
    simp only [List.length_cons] at h
    rw [setL, setL_get r _ (o + 1) j (by simp; omega)]
    by_cases hj : o = j
    · subst hj
      rw [if_neg (by omega), if_pos (by simp), Nat.sub_self, Array.getElem?_setIfInBounds_self_of_lt (by omega)]
      rfl
    · by_cases h2 : o + 1 ≤ j ∧ j < o + 1 + r.length
      · rw [if_pos h2, if_pos (by simp; omega), show j - o = (j - (o + 1)) + 1 by omega]
        rfl
      · rw [if_neg h2, if_neg (by simp; omega), Array.getElem?_setIfInBounds_ne hj]
theorem heap_setCells (g : Nat) : ∀ (vs : List Value) (o : Nat) (w : World) (cur : Array Value) (lab : TypeId), w.heap[g]? = some (.cells cur lab (0, 0)) →
    (w.setCells g o vs).heap[g]? = some (.cells (setL cur o vs) lab (0, 0)) ∧ w.grownBy (w.setCells g o vs) (some g)
  | [], o, w, cur, lab, h => ⟨h, World.grownBy.refl _ _⟩
  | v :: r, o, w, cur, lab, h => by
    have h1 := heap_setCell_same w g o cur lab v h
    have ih := heap_setCells g r (o + 1) (w.setCell ⟨g, o, none⟩ v) _ lab h1
    refine ⟨ih.1, ?_⟩
    have i2 := ih.2
    refine ⟨i2.os, i2.tape, i2.output, ?_, fun k hk hne => ?_⟩
    · have := i2.size
      have e : (w.setCell ⟨g, o, none⟩ v).heap.size = w.heap.size := by simp [World.setCell]
      rw [e] at this
      exact this
    · have hk' : k < (w.setCell ⟨g, o, none⟩ v).heap.size := by simpa [World.setCell] using hk
      show ((w.setCell ⟨g, o, none⟩ v).setCells g (o + 1) r).heap[k]? = _
      rw [i2.block k hk' hne]
      exact heap_setCell_other w ⟨g, o, none⟩ k v (fun e => hne (by simp [e]))

theorem row_parts {w : World} {B lab g n cap : Nat} {xs : List Value} (h : w.ownsRow B lab 1 (.slice (some ⟨g, 0, none⟩) n cap) n xs) :
    ∃ cur, B ≤ g ∧ w.heap[g]? = some (.cells cur lab (0, 0)) ∧ n ≤ cap ∧ cap ≤ maxLen ∧ cur.size = cap ∧ cur.toList.take n = xs ∧ xs.length = n := by
  have hl := h.1
  rcases h.2 with ⟨h', _⟩ | ⟨g', cap', cur, h', hb, hg, hnc, hcm, hcs, htake⟩
  · simp at h'
  · simp only [Value.slice.injEq, Option.some.injEq, Addr.mk.injEq, and_true, true_and] at h'
    obtain ⟨rfl, rfl⟩ := h'
    exact ⟨cur, hb, hg, hnc, hcm, by omega, by rw [Nat.mul_one] at htake; exact htake, by omega⟩

/-- The row behind an insertion of one value at i. -/
theorem row_insert {w : World} {B lab g n cap i : Nat} {xs : List Value} (v : Value) (h : w.ownsRow B lab 1 (.slice (some ⟨g, 0, none⟩) n cap) n xs) (hi : i ≤ n) (hroom : n + 1 ≤ cap) :
    ((w.drew.setCells g (0 + (i + 1)) (xs.drop i)).setCells g (0 + i) [v]).ownsRow B lab 1 (.slice (some ⟨g, 0, none⟩) (n + 1) cap) (n + 1) (xs.take i ++ v :: xs.drop i) ∧
      w.grownBy ((w.drew.setCells g (0 + (i + 1)) (xs.drop i)).setCells g (0 + i) [v]) (some g) := by
  obtain ⟨cur, hb, hg, hnc, hcm, hcs, htake, hxl⟩ := row_parts h
  have hdl : (xs.drop i).length = n - i := by rw [List.length_drop, hxl]
  obtain ⟨a1, a2⟩ := heap_setCells g (xs.drop i) (0 + (i + 1)) w.drew cur lab hg
  obtain ⟨b1, b2⟩ := heap_setCells g [v] (0 + i) _ _ lab a1
  refine ⟨⟨?_, .inr ⟨g, cap, _, rfl, hb, b1, hroom, hcm, ?_, ?_⟩⟩, ?_⟩
  · rw [List.length_append, List.length_take, List.length_cons, hdl, hxl]; omega
  · rw [setL_size, setL_size]; omega
  · apply List.ext_getElem?
    intro j
    have hx : ∀ k, k < n → cur[k]? = xs[k]? := by
      intro k hk
      rw [← htake, List.getElem?_take, if_pos hk]; simp
    rw [List.getElem?_take]
    by_cases hj : j < (n + 1) * 1
    · rw [if_pos hj, Array.getElem?_toList, setL_get _ _ _ _ (by rw [setL_size]; simp; omega), setL_get _ _ _ _ (by rw [hdl]; omega)]
      simp only [Nat.zero_add, List.length_cons, List.length_nil, hdl]
      by_cases h1 : i = j
      · subst h1
        rw [if_pos (by omega), Nat.sub_self, List.getElem?_append_right (by rw [List.length_take]; omega), List.length_take, Nat.min_eq_left (by omega), Nat.sub_self]
        rfl
      · rw [if_neg (by omega)]
        by_cases h2 : i < j
        · rw [if_pos (by omega), List.getElem?_append_right (by rw [List.length_take]; omega), List.length_take, Nat.min_eq_left (by omega), show j - i = (j - (i + 1)) + 1 by omega]
          rfl
        · rw [if_neg (by omega), hx j (by omega), List.getElem?_append_left (by rw [List.length_take]; omega), List.getElem?_take, if_pos (by omega)]
    · rw [if_neg hj]
      symm
      rw [List.getElem?_eq_none_iff, List.length_append, List.length_take, List.length_cons, hdl]
      omega
  · refine ⟨b2.os.trans a2.os, b2.tape.trans a2.tape, b2.output.trans a2.output, Nat.le_trans a2.size b2.size, fun k hk hne => ?_⟩
    rw [b2.block k (Nat.lt_of_lt_of_le hk a2.size) hne]
    exact a2.block k hk hne
theorem row_cellSome {w : World} {B lab g n cap : Nat} {xs : List Value} (h : w.ownsRow B lab 1 (.slice (some ⟨g, 0, none⟩) n cap) n xs) (j : Nat) (hj : j < cap) : (w.cell? ⟨g, j, none⟩).isSome = true := by
  obtain ⟨cur, hb, hg, hnc, hcm, hcs, htake, hxl⟩ := row_parts h
  rw [cell_of_row w g j cur lab (0, 0) hg, Array.getElem?_eq_getElem (by omega)]
  rfl

set_option maxHeartbeats 4000000 in
set_option maxRecDepth 100000 in
/-- slices.Insert at []byte, one value in a block of its own, there is room, i < len(s). -/
theorem insert_shift (B lab g n c i vb : Nat) (v : Value) (xs : List Value) (w : World) (hi : i < n) (hroom : n + 1 ≤ c)
    (hown : w.ownsRow B lab 1 (.slice (some ⟨g, 0, none⟩) n c) n xs) (h1c : ∀ v ∈ xs, v.oneCell' = true) (h1v : v.oneCell' = true)
    (hvs : w.heap[vb]? = some (.cells #[v] 5 (0, 0))) (hvb : vb ≠ g) :
    Calls Tryd.prog 21 #[.slice (some ⟨g, 0, none⟩) n c, .int .i64 i, .slice (some ⟨vb, 0, none⟩) 1 1] w fun e w' =>
      e = .returned (.slice (some ⟨g, 0, none⟩) (n + 1) c) ∧ w'.ownsRow B lab 1 (.slice (some ⟨g, 0, none⟩) (n + 1) c) (n + 1) (xs.take i ++ v :: xs.drop i) ∧ w.grownBy w' (some g) := by
  have hfin := row_insert v hown (Nat.le_of_lt hi) hroom
  obtain ⟨cur, hbg, hg, hnc, hcm, hcs, htake, hcl⟩ := row_parts hown
  have hc63 : c ≤ 9223372036854775807 := by simp [maxLen] at hcm; omega
  have hsp : ∀ j, j < n + 1 → (w.cell? ⟨g, 0 + j, none⟩).isSome = true := fun j hj => by rw [Nat.zero_add]; exact row_cellSome hown j (by omega)
  have hfz : ∀ j, w.frozen? ⟨g, j, none⟩ = false := fun j => hown.frozenAt j
  have hxc : ∀ j u, xs[j]? = some u → w.cell? ⟨g, 0 + j, none⟩ = some u := fun j u hj => by
    have hjl := (List.getElem?_eq_some_iff.1 hj).1
    rw [Nat.zero_add, hown.cellAt j (by omega), hj]
  have hvc : w.cell? ⟨vb, 0, none⟩ = some v := by rw [cell_of_row w vb 0 #[v] 5 (0, 0) hvs]; rfl
  have hz1 : ¬ ((1 : Int) = 0) := by omega
  have hz2 : ¬ ((i : Int) = (n : Int)) := by omega
  have hz2b : ((i : Int) == (n : Int)) = false := by simp; omega
  have hsz : (Tryd.prog.info? 5).map (·.size) = some 1 := by
    obtain ⟨i0, hi0, h0, h1, h2⟩ := info_parts Tryd.info5
    rw [hi0]; simp [h1]
  have hov : ∀ lb cb, (callFunc 24 #[.slice (some ⟨vb, 0, none⟩) 1 1, .slice (some ⟨g, i + 1, none⟩) lb cb]).run Tryd.prog w = .ok (.value (.bool false)) w := fun lb cb => by
    rw [run_callFunc_extern Tryd.func24 (by kernel_rfl) (by kernel_rfl) (by kernel_rfl) (e := Extern.SlicesOverlaps.overlaps #[35, 35] #[4]) (by kernel_rfl),
      Lib.run_overlaps_apart w 35 4 5 Tryd.underlying35 1 Tryd.sizeOf5 ⟨vb, 0, none⟩ ⟨g, i + 1, none⟩ 1 1 lb cb hvb 5 lab 1 c (by simp [World.shape?, hvs]) (by simp [World.shape?, hg, hcs]) (by omega) (by simp [World.frozen?, hvs]) (by simp [World.frozen?, hvs])]
    rfl
  have hdl : (xs.drop i).length = n - i := by rw [List.length_drop, hcl]
  have hb1 : (0 : Int) ≤ (i : Int) + 1 := by omega
  have hin : i ≤ n := by omega
  have htn : ((i : Int) + 1).toNat = i + 1 := by omega
  have hb2 : ¬ (c = i + 1) := by omega
  have hb3 : (i : Int) ≤ (n : Int) + 1 := by omega
  have hb4 : ¬ (c = i) := by omega
  have hcp1 : ∀ ty dc sc, (Builtin.copy_ #[35, 35] ty #[.slice (some ⟨g, i + 1, none⟩) (n - i) dc, .slice (some ⟨g, i, none⟩) (n + 1 - i) sc]).run Tryd.prog w.drew = .ok (goInt (xs.drop i).length) (w.drew.setCells g (0 + (i + 1)) (xs.drop i)) := fun ty dc sc => by
    have := run_copy_cells (P := Tryd.prog) w.drew 35 35 ty 5 g (0 + (i + 1)) (n - i) dc ⟨g, i, none⟩ (n + 1 - i) sc (xs.drop i) Tryd.underlying35 hsz (by rw [hdl]; simp only [Nat.min_def]; split <;> omega)
      (fun j v hj => by rw [Addr.add_lit, ← Nat.zero_add (i + j)]; exact hxc (i + j) v (by rwa [List.getElem?_drop] at hj))
      (fun j hj => by rw [Nat.add_assoc]; exact hsp _ (by omega)) (fun j hj => hfz _) (fun v hv => h1c v (List.mem_of_mem_drop hv))
    rw [Nat.zero_add] at this ⊢
    exact this
  obtain ⟨W1, hW1⟩ : ∃ W1, W1 = w.drew.setCells g (0 + (i + 1)) (xs.drop i) := ⟨_, rfl⟩
  have hsp1 : ∀ k, k < n + 1 → (W1.cell? ⟨g, 0 + k, none⟩).isSome = true := fun k hk => by
    rw [hW1]
    exact isSome_setCells g _ _ _ (fun j hj => by rw [Nat.add_assoc]; exact hsp _ (by omega)) _ (hsp k hk)
  have hcp2 : ∀ (W : World), (∀ x, W.cell? x = W1.cell? x) → (∀ x, W.frozen? x = W1.frozen? x) → ∀ ty dc, (Builtin.copy_ #[35, 35] ty #[.slice (some ⟨g, i, none⟩) (n + 1 - i) dc, .slice (some ⟨vb, 0, none⟩) 1 1]).run Tryd.prog W = .ok (goInt [v].length) (W.setCells g (0 + i) [v]) := fun W hWc hWf ty dc => by
    have := run_copy_cells (P := Tryd.prog) W 35 35 ty 5 g (0 + i) (n + 1 - i) dc ⟨vb, 0, none⟩ 1 1 [v] Tryd.underlying35 hsz (by simp only [Nat.min_def, List.length_cons, List.length_nil]; split <;> omega)
      (fun j u hj => by
        rw [Addr.add_lit, hWc, hW1, World.cell?_setCells_out g _ _ _ _ (fun h _ => absurd h hvb)]
        match j, hj with
        | 0, hj => simp at hj; subst hj; exact hvc)
      (fun j hj => by rw [hWc, Nat.add_assoc]; exact hsp1 _ (by simp at hj; omega)) (fun j hj => by rw [hWf, hW1, World.frozen?_setCells]; exact hfz _) (fun u hu => by simp at hu; subst hu; exact h1v)
    rw [Nat.zero_add] at this ⊢
    exact this
  rw [← hW1] at hcp1 hfin
  have HFIN : Hid _ := hfin
  clear hfin hxc hsp hsp1 hfz hown hW1 htake hg hvs hvc
  have hw1 : IntKind.i64.wrap ((i : Int) + 1) = (i : Int) + 1 := by rw [IntKind.wrap_i64]; omega
  have hb5 : (i : Int) + 1 ≤ (n : Int) + 1 := by omega
  have mixed : Tryd.prog.follows .mixedOrders = true := by kernel_rfl
  go_enter Tryd.func21, Tryd.ntmps21
  go_wp2_with (simp only [hov])
  go_region_law_o (refine step_copy_runI rfl _ _ 35 35 rfl _ _ (by simp [Act.eval, Act.put]) (by simp [Act.eval, Act.put]) (hcp1 _ _ _) ?_)
  go_wp2_with (at_builtin; refine wpList_copy_runI _ rfl _ _ 35 35 rfl _ _ rfl rfl (hcp2 _ (fun _ => rfl) (fun _ => rfl) _ _) ?_)
  go_ret
  have h := HFIN.out
  simp only [Nat.zero_add] at h
  exact ⟨rfl, h⟩

set_option maxHeartbeats 4000000 in
/-- .. at the end. -/
theorem insert_end (B lab g n c vb : Nat) (v : Value) (xs : List Value) (w : World) (hroom : n + 1 ≤ c)
    (hown : w.ownsRow B lab 1 (.slice (some ⟨g, 0, none⟩) n c) n xs) (h1v : v.oneCell' = true)
    (hvs : w.heap[vb]? = some (.cells #[v] 5 (0, 0))) :
    Calls Tryd.prog 21 #[.slice (some ⟨g, 0, none⟩) n c, .int .i64 n, .slice (some ⟨vb, 0, none⟩) 1 1] w fun e w' =>
      e = .returned (.slice (some ⟨g, 0, none⟩) (n + 1) c) ∧ w'.ownsRow B lab 1 (.slice (some ⟨g, 0, none⟩) (n + 1) c) (n + 1) (xs ++ [v]) ∧ w.grownBy w' (some g) := by
  obtain ⟨i0, hi, hz0, hz1, hz2⟩ := info_parts Tryd.info5
  obtain ⟨cur, hbg, hg, hnc, hcm, hcs, htake, hcl⟩ := row_parts hown
  have hc63 : c ≤ 9223372036854775807 := by simp [maxLen] at hcm; omega
  have hvc : ∀ j u, [v][j]? = some u → w.cell? ((⟨vb, 0, none⟩ : Addr).add j) = some u := by
    intro j u hj
    match j, hj with
    | 0, hj => simp at hj; subst hj; rw [Addr.add_lit, cell_of_row w vb _ #[v] 5 (0, 0) hvs]; rfl
  clear hg hvs htake
  go_enter Tryd.func21, Tryd.ntmps21
  go_wp2_with (at_builtin; refine wpList_append_fits_lab _ rfl _ _ 35 rfl B 5 lab i0 Tryd.underlying35 hi hz1 g n c xs rfl hown ⟨vb, 0, none⟩ 1 1 [v] rfl rfl hvc (by intro u hu; simp at hu; subst hu; exact h1v) hroom ?_; intro w1 hown1 hgrow1)
  go_ret
  exact ⟨rfl, hown1, hgrow1⟩
end Go.Proofs.Qxb6612180aDoor
