/-
  MEMORY LAWS for seat b6609292a: a block whose cells are all known; a store into it; 'make'.
-/
import Derived.Test.Qxb6609292aData
import Derived.OwnWalk
set_option linter.unusedVariables false
namespace Go.Proofs.Qxb6609292a
open Go.RowKit Go.Maps

/-- Block g holds just the cells xs. -/
def Blk (w : World) (g : Nat) (xs : List Value) : Prop := ∃ T, w.heap[g]? = some (.cells xs.toArray T (0, 0))
theorem Blk.cell {w : World} {g : Nat} {xs : List Value} (h : Blk w g xs) {i : Nat} {v : Value} (hi : xs[i]? = some v) : w.cell? ⟨g, i, none⟩ = some v := by
  obtain ⟨T, h⟩ := h
  simp [World.cell?, h, hi]
theorem Blk.cellAt {w : World} {g : Nat} {xs : List Value} (h : Blk w g xs) (i : Nat) : w.cell? ⟨g, i, none⟩ = xs[i]? := by
  obtain ⟨T, h⟩ := h
  simp [World.cell?, h]
theorem Blk.frozen {w : World} {g : Nat} {xs : List Value} (h : Blk w g xs) (i : Nat) : w.frozen? ⟨g, i, none⟩ = false := by
  obtain ⟨T, h⟩ := h
  simp [World.frozen?, h]
theorem Blk.lt {w : World} {g : Nat} {xs : List Value} (h : Blk w g xs) : g < w.heap.size := by
  obtain ⟨T, h⟩ := h; exact (Array.getElem?_eq_some_iff.1 h).1
theorem Blk.ext {w w' : World} {g : Nat} {xs : List Value} (h : Blk w g xs) (he : Ext w w') : Blk w' g xs := by
  obtain ⟨T, h⟩ := h; exact ⟨T, he.block h⟩
theorem Blk.kept {w w' : World} {g : Nat} {xs : List Value} {row : Option Nat} (h : Blk w g xs) (hg : w.grownBy w' row) (hne : some g ≠ row) : Blk w' g xs := by
  have hl := h.lt
  obtain ⟨T, h⟩ := h; exact ⟨T, by rw [hg.block g hl hne]; exact h⟩
theorem Blk.alloc (w : World) (xs : List Value) (T : TypeId) : Blk (w.alloc (.cells xs.toArray T)) w.heap.size xs := ⟨T, by show (w.heap.push _)[w.heap.size]? = _; simp⟩
theorem Blk.allocA (w : World) (xs : Array Value) (T : TypeId) : Blk (w.alloc (.cells xs T)) w.heap.size xs.toList := ⟨T, by show (w.heap.push _)[w.heap.size]? = _; simp⟩
theorem Blk.drew {w : World} {g : Nat} {xs : List Value} (h : Blk w g xs) : Blk w.drew g xs := h

def setR (xs : List Value) (i : Nat) (vs : List Value) : List Value := xs.take i ++ vs ++ xs.drop (i + vs.length)
theorem setR_len {xs : List Value} {i : Nat} {vs : List Value} (h : i + vs.length ≤ xs.length) : (setR xs i vs).length = xs.length := by
  simp [setR]; omega
theorem setR_get {xs : List Value} {i : Nat} {vs : List Value} (h : i + vs.length ≤ xs.length) (j : Nat) : (setR xs i vs)[j]? = if i ≤ j ∧ j < i + vs.length then vs[j - i]? else xs[j]? := by
  unfold setR
  by_cases h1 : j < i
  · rw [if_neg (by omega), List.append_assoc, List.getElem?_append_left (by simp; omega), List.getElem?_take_of_lt h1]
  · rw [List.append_assoc, List.getElem?_append_right (by simp; omega)]
    have e : (xs.take i).length = i := by simp; omega
    rw [e]
    by_cases h2 : j < i + vs.length
    · rw [if_pos (by omega), List.getElem?_append_left (by omega)]
    · rw [if_neg (by omega), List.getElem?_append_right (by omega), List.getElem?_drop]
      congr 1; omega

theorem run_st (w : World) (ty : TypeId) (g i : Nat) (v : Value) (vs xs : List Value) (hb : Blk w g xs) (hv : v.cells = vs.toArray) (hs : (Try.prog.info? ty).map (·.size) = some vs.length) (hi : i + vs.length ≤ xs.length) (h1 : ∀ u ∈ vs, u.oneCell' = true) :
    ∃ w', (storeVar ty ⟨g, i, none⟩ v).run Try.prog w = .ok () w' ∧ Blk w' g (setR xs i vs) ∧ w.grownBy w' (some g) := by
  obtain ⟨T, hb⟩ := hb
  have hst := run_storeCells_at Try.prog g i T vs 0 xs.toArray w hb (by simpa using hi) h1
  refine ⟨_, ?_, ⟨T, setRow_heap w g _ _ T _ hb⟩, ⟨rfl, rfl, rfl, by simp [World.setRow], fun k _ hk => setRow_other w g k _ (fun e => hk (by simp [e]))⟩⟩
  cases hq : Try.prog.info? ty with
  | none => simp [hq] at hs
  | some inf =>
    have hsz : inf.size = vs.length := by simpa [hq] using hs
    simp only [Nat.add_zero] at hst
    simp [storeVar, sizeOf, typeInfo, hq, hv, hsz, hst, setR]

/-- A store into a block that is known. -/
theorem wpList_st (w : World) {ops : Array Oper} {rest : List Oper} {o : Oper} {a : Act} {Q : Exit → Act → World → Prop}
    (hgd : o.guard = none) (ty : TypeId) (x y : Operand) (ho : o.op = .store ty x y) (g i : Nat) (xs : List Value) (v : Value) (vs : List Value)
    (hx : a.eval x = .pointer (some ⟨g, i, none⟩)) (hb : Blk w g xs) (hy : a.eval y = v) (hv : v.cells = vs.toArray) (hs : (Try.prog.info? ty).map (·.size) = some vs.length) (hi : i + vs.length ≤ xs.length) (h1 : ∀ u ∈ vs, u.oneCell' = true)
    (hK : ∀ w', Blk w' g (setR xs i vs) → w.grownBy w' (some g) → wpList Try.prog ops Q rest (a.put o.dst undef) w') : wpList Try.prog ops Q (o :: rest) a w := by
  refine wpList_plain hgd fun K hK' => ?_
  obtain ⟨w', hr, r1, r2⟩ := run_st w ty g i v vs xs hb hv hs hi h1
  unfold Oper.wp execOp
  simp only [ho, hx, hy, Instr.storeAt, Instr.sureAddr, Sem.run_bind, Sem.run_pure, Result.andThen_ok, hr]
  exact hK' _ _ (hK w' r1 r2)

theorem Try.info3 : (Try.prog.info? 3).map (·.size) = some 1 := by kernel_rfl
theorem Try.info9 : (Try.prog.info? 9).map (·.size) = some 1 := by kernel_rfl
theorem Try.info4 : (Try.prog.info? 4).map (·.size) = some 1 := by kernel_rfl

/-- One cell. -/
theorem wpList_st1 (w : World) {ops : Array Oper} {rest : List Oper} {o : Oper} {a : Act} {Q : Exit → Act → World → Prop}
    (hgd : o.guard = none) (ty : TypeId) (x y : Operand) (ho : o.op = .store ty x y) (g i : Nat) (xs : List Value) (v : Value)
    (hx : a.eval x = .pointer (some ⟨g, i, none⟩)) (hb : Blk w g xs) (hy : a.eval y = v) (hs : (Try.prog.info? ty).map (·.size) = some 1) (hi : i < xs.length) (h1 : v.oneCell' = true)
    (hK : ∀ w', Blk w' g (xs.set i v) → w.grownBy w' (some g) → wpList Try.prog ops Q rest (a.put o.dst undef) w') : wpList Try.prog ops Q (o :: rest) a w := by
  refine wpList_st w hgd ty x y ho g i xs v [v] hx hb hy (by cases v <;> first | rfl | cases h1) hs (by simp; omega) (by intro u hu; simp at hu; subst hu; exact h1) ?_
  intro w' hw' hg'
  refine hK w' ?_ hg'
  have e : setR xs i [v] = xs.set i v := by
    unfold setR
    rw [List.set_eq_take_append_cons_drop, if_pos hi]
    simp
  rw [← e]; exact hw'

theorem own_blk {w : World} {B lab size g n : Nat} {xs : List Value} (h : w.ownsRow B lab size (.slice (some ⟨g, 0, none⟩) n n) n xs) : Blk w g xs ∧ xs.length = n * size := by
  have hl := h.1
  rcases h.2 with ⟨h', _⟩ | ⟨g', cap', cur, h', hb, hg, hnc, hcm, hcs, htake⟩
  · simp at h'
  · simp only [Value.slice.injEq, Option.some.injEq, Addr.mk.injEq, and_true, true_and] at h'
    obtain ⟨rfl, rfl⟩ := h'
    refine ⟨⟨lab, ?_⟩, hl⟩
    rw [hg, ← htake, ← hcs, ← Array.length_toList, List.take_length]

/-- 'make([]T, n)'. -/
theorem wpList_mk (w : World) {ops : Array Oper} {rest : List Oper} {o : Oper} {a : Act} {Q : Exit → Act → World → Prop}
    (hg : o.guard = none) (l c : Operand) (t : TypeId) (hop : o.op = Op.makeSlice t l c)
    (e : TypeId) (z : Value) (size bytes : Nat) (h1 : Try.prog.underlying t = some (.slice e)) (h2 : (Try.prog.info? e).map (fun i => (i.zero, i.size, i.bytes)) = some (some z, size, bytes))
    (n : Nat) (hl : a.eval l = .int .i64 n) (hc : a.eval c = .int .i64 n) (b2 : bytes * n ≤ 281474976710656) (b3 : n ≤ 1048577)
    (hK : ∀ w', Blk w' w.heap.size (madeCells z.cells (n * size)).toList → w.grownBy w' none → wpList Try.prog ops Q rest (a.put o.dst (.slice (some ⟨w.heap.size, 0, none⟩) n n)) w') :
    wpList Try.prog ops Q (o :: rest) a w := by
  obtain ⟨i0, hi, hz0, hz1, hz2⟩ := info_parts h2
  refine wpList_make_full w hg l c t hop w.heap.size e i0 z size h1 hi hz0 hz1 .i64 .i64 _ _ n hl hc rfl rfl (by rw [hz2]; exact b2) (by unfold maxLen; omega) (Nat.le_refl _) ?_
  intro w' hown hgr
  exact hK w' (own_blk hown).1 hgr
theorem made_one (z : Value) (h : z.cells = #[z]) (n : Nat) : (madeCells z.cells (n * 1)).toList = List.replicate n z := by
  rw [h, Nat.mul_one]
  unfold madeCells
  apply List.ext_getElem?
  intro i
  simp only [Array.toList_map, List.getElem?_map, Array.toList_range, List.getElem?_replicate]
  by_cases hi : i < n
  · rw [List.getElem?_range hi, if_pos hi]; simp [Nat.mod_one]
  · rw [List.getElem?_eq_none (by simp; omega), if_neg hi]; rfl

theorem Blk.rows {w : World} {g : Nat} {xs : List Value} (h : Blk w g xs) {n k : Nat} {rows : List (List Value)} (hr : rows.length = n) (hx : ∀ i x, rows[i]? = some x → ∀ j u, x[j]? = some u → xs[i * k + j]? = some u) : RowsAt w (.slice (some ⟨g, 0, none⟩) n n) k rows := by
  refine ⟨_, n, by rw [hr], by omega, fun _ => ⟨g, 0, rfl, fun i x hi j u hu => ?_⟩⟩
  rw [Nat.zero_add]
  exact h.cell (hx i x hi j u hu)
end Go.Proofs.Qxb6609292a
