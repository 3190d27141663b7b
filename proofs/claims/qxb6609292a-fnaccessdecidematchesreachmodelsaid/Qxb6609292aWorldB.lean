/-
  For the walk of toWorld, seat b6609292a: what a copy is told to be; cloneStrings.
-/
import Derived.Test.Qxb6609292aHid
set_option linter.unusedVariables false
set_option linter.unusedSimpArgs false
namespace Go.Proofs.Qxb6609292a
open Go.RowKit Go.Maps

/-- A slice of strings in a block of its own, from N on. -/
def StrsIn (w : World) (N : Nat) (v : Value) (l : List ByteArray) : Prop := (∀ s ∈ l, okStr s) ∧ ((v = .slice none 0 0 ∧ l = []) ∨ ∃ b, v = .slice (some ⟨b, 0, none⟩) l.length l.length ∧ N ≤ b ∧ Blk w b (l.map sV))
theorem StrsIn.at_ {w : World} {N : Nat} {v : Value} {l : List ByteArray} (h : StrsIn w N v l) : StrsAt w v l := by
  obtain ⟨hok, h | ⟨b, rfl, _, hb⟩⟩ := h
  · obtain ⟨rfl, rfl⟩ := h; exact strs_nil w
  · exact strs_of_blk hb hok
theorem StrsIn.ext {w w' : World} {N : Nat} {v : Value} {l : List ByteArray} (h : StrsIn w N v l) (he : Ext w w') : StrsIn w' N v l := by
  obtain ⟨hok, h | ⟨b, hv, hN, hb⟩⟩ := h
  · exact ⟨hok, Or.inl h⟩
  · exact ⟨hok, Or.inr ⟨b, hv, hN, hb.ext he⟩⟩
theorem StrsIn.kept {w w' : World} {N g : Nat} {v : Value} {l : List ByteArray} (h : StrsIn w N v l) (hg : w.grownBy w' (some g)) (hlt : g < N) : StrsIn w' N v l := by
  obtain ⟨hok, h | ⟨b, hv, hN, hb⟩⟩ := h
  · exact ⟨hok, Or.inl h⟩
  · exact ⟨hok, Or.inr ⟨b, hv, hN, hb.kept hg (by intro e; cases e; omega)⟩⟩
theorem StrsIn.hid {w : World} {N W : Nat} {v : Value} {l : List ByteArray} (h : StrsIn w N v l) (hlt : W < N) : StrsIn (hid w W) N v l := by
  obtain ⟨hok, h | ⟨b, hv, hN, hb⟩⟩ := h
  · exact ⟨hok, Or.inl h⟩
  · exact ⟨hok, Or.inr ⟨b, hv, hN, hb.hid (by omega)⟩⟩
theorem StrsIn.mono {w : World} {N M : Nat} {v : Value} {l : List ByteArray} (h : StrsIn w N v l) (hle : M ≤ N) : StrsIn w M v l := by
  obtain ⟨hok, h | ⟨b, hv, hN, hb⟩⟩ := h
  · exact ⟨hok, Or.inl h⟩
  · exact ⟨hok, Or.inr ⟨b, hv, by omega, hb⟩⟩

set_option maxRecDepth 100000 in
set_option maxHeartbeats 1600000 in
theorem clone_in (v : Value) (l : List ByteArray) (w : World) (h : StrsAt w v l) (hn : l.length ≤ 1048576) :
    Calls Try.prog 44 #[v] w fun e w' => ∃ v', e = .returned v' ∧ StrsIn w' w.heap.size v' l ∧ Ext w w' := by
  obtain ⟨ao, cap, rfl, hcap⟩ := h.shape
  have hnil := eql26
  cases ao with
  | none =>
    have hl : l = [] := by
      cases l with
      | nil => rfl
      | cons x r =>
        obtain ⟨b, off, hb, _⟩ := h.at (i := 0) (o := x) rfl
        cases hb
    subst hl
    go_enter Try.func44, Try.ntmps44
    go_wp2
    go_ret
    exact ⟨_, rfl, ⟨by simp, Or.inl ⟨rfl, rfl⟩⟩, Ext.refl _⟩
  | some ad =>
    go_enter Try.func44, Try.ntmps44
    go_wp2_with (at_make; refine wpList_mk _ rfl _ _ 26 rfl 9 (.string ⟨#[]⟩) 1 16 Try.underlying26 Try.infos9 l.length rfl rfl (by omega) (by omega) ?_; intro w0 hb0 hg0; rw [made_one _ rfl] at hb0)
    have he0 : Ext w w0 := grown_ext (Ext.refl _) hg0 (by simp)
    clear hg0
    go_loopw [12] (fun j wr => ∃ (k : Nat) (xs : List Value), j = .int .i64 k ∧ k ≤ l.length ∧ xs.length = l.length ∧ Hid (xs.take k = (l.take k).map sV) ∧ Blk wr w.heap.size xs ∧ Ext w wr) (fun i _ => l.length - (intOf i).toNat)
    case atStart => exact ⟨0, _, rfl, Nat.zero_le _, by simp, by simp [Hid], hb0, he0⟩
    case round =>
      clear hb0 he0
      obtain ⟨k, xs, rfl, hk, hxl, hx, hb, he⟩ := hrel
      by_cases hlt : k < l.length
      · obtain ⟨o, hoo⟩ := get_at l k hlt
        obtain ⟨bb, off, hao, c0, ok⟩ := h.at hoo
        cases hao
        have d0 := he.cell c0
        have HX : Hid ((xs.set k (sV o)).take (k + 1) = (l.take (k + 1)).map sV) := by
          show _ = _
          rw [take_set_succ _ _ _ (by omega), map_take_succ sV hoo, hx.out]
        clear hoo c0 hx
        go_wp2_with (refine wpList_st1 _ rfl 9 _ _ rfl w.heap.size k xs (.string o) rfl hb rfl Try.info9 (by omega) rfl ?_; intro w1 hb1 hg1; have he1 := ext_st he hg1 (Nat.le_refl _))
        go_roundw
        case rel => exact ⟨k + 1, _, by go_num, by omega, by simp [hxl], HX, hb1, he1⟩
        case measure => simp [intOf]; omega
      · obtain rfl : k = l.length := by omega
        have hst : StrsIn wr w.heap.size (.slice (some ⟨w.heap.size, 0, none⟩) l.length l.length) l := by
          have h3 := hx.out
          rw [← hxl, List.take_length, hxl, List.take_length] at h3
          rw [h3] at hb
          exact ⟨h.2, Or.inr ⟨_, rfl, Nat.le_refl _, hb⟩⟩
        clear hx hxl hb hk hlt
        go_wp2
        go_ret
        exact ⟨_, rfl, hst, he⟩

/-! ### rows written one after another into a block -/
/-- The first k rows lie in xs. -/
def RowsTo (xs : List Value) (c : Nat) (rows : List (List Value)) : Prop := ∀ i x, rows[i]? = some x → ∀ j u, x[j]? = some u → xs[i * c + j]? = some u
theorem rows_nil (xs : List Value) (c : Nat) : RowsTo xs c [] := by intro i x h; simp at h
theorem rows_snoc {xs : List Value} {c : Nat} {rows : List (List Value)} {row : List Value} (h : RowsTo xs c rows) (hc : ∀ x ∈ rows, x.length = c) (hr : row.length = c) (hfit : rows.length * c + c ≤ xs.length) : RowsTo (setR xs (rows.length * c) row) c (rows ++ [row]) := by
  intro i x hi j u hu
  rw [setR_get (by omega)]
  by_cases hlt : i < rows.length
  · rw [List.getElem?_append_left hlt] at hi
    have hx := hc x (List.mem_of_getElem? hi)
    have hj : j < c := by have := (List.getElem?_eq_some_iff.1 hu).1; omega
    have h2 : i * c + j < rows.length * c := by
      have : (i + 1) * c ≤ rows.length * c := Nat.mul_le_mul_right c hlt
      rw [Nat.succ_mul] at this; omega
    rw [if_neg (by omega)]
    exact h i x hi j u hu
  · have hi' : i = rows.length := by
      have := (List.getElem?_eq_some_iff.1 hi).1
      simp at this; omega
    subst hi'
    rw [List.getElem?_append_right (Nat.le_refl _), Nat.sub_self] at hi
    have hx : row = x := by simpa using hi
    subst hx
    have hj := (List.getElem?_eq_some_iff.1 hu).1
    rw [if_pos (by omega), show rows.length * c + j - rows.length * c = j by omega]
    exact hu
end Go.Proofs.Qxb6609292a
