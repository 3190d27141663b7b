/-
  WALKS for seat b6609292a: cloneStrings.
-/
import Derived.Test.Qxb6609292aWant0
import Derived.Lib.LazyBuf
set_option linter.unusedVariables false
set_option linter.unusedSimpArgs false
namespace Go.Proofs.Qxb6609292a
open Go.RowKit Go.Maps

theorem strs_nil (w : World) : StrsAt w (.slice none 0 0) [] := ⟨⟨none, 0, rfl, Nat.le_refl _, by simp⟩, by simp⟩
theorem eql26 (W : World) (a : Option Addr) (l c : Nat) : (binOp .eql 26 (.slice a l c) (.slice none 0 0)).run Try.prog W = .ok (.bool a.isNone) W := Go.run_eql_slice_nil W 26 9 a l c Try.underlying26
set_option maxRecDepth 100000 in
set_option maxHeartbeats 1600000 in
theorem clone_any (v : Value) (l : List ByteArray) (w : World) (h : StrsAt w v l) (hn : l.length ≤ 1048576) :
    Calls Try.prog 44 #[v] w fun e w' => ∃ v', e = .returned v' ∧ StrsAt w' v' l ∧ Ext w w' := by
  obtain ⟨ao, cap, rfl, hcap⟩ := h.shape
  have hnil := eql26
  cases ao with
  | none =>
    have hl : l = [] := by
      cases l with
      | nil => rfl
      | cons x r =>
        obtain ⟨b, off, hb, _⟩ := h.at (i := 0) (o := x) rfl
        cases hb
    subst hl
    go_enter Try.func44, Try.ntmps44
    go_wp2
    go_ret
    exact ⟨_, rfl, strs_nil w, Ext.refl _⟩
  | some ad =>
    go_enter Try.func44, Try.ntmps44
    go_wp2_with (at_make; refine wpList_mk _ rfl _ _ 26 rfl 9 (.string ⟨#[]⟩) 1 16 Try.underlying26 Try.infos9 l.length rfl rfl (by omega) (by omega) ?_; intro w0 hb0 hg0; rw [made_one _ rfl] at hb0)
    have he0 : Ext w w0 := grown_ext (Ext.refl _) hg0 (by simp)
    clear hg0
    go_loopw [12] (fun j wr => ∃ (k : Nat) (xs : List Value), j = .int .i64 k ∧ k ≤ l.length ∧ xs.length = l.length ∧ Hid (xs.take k = (l.take k).map sV) ∧ Blk wr w.heap.size xs ∧ Ext w wr) (fun i _ => l.length - (intOf i).toNat)
    case atStart => exact ⟨0, _, rfl, Nat.zero_le _, by simp, by simp [Hid], hb0, he0⟩
    case round =>
      clear hb0 he0
      obtain ⟨k, xs, rfl, hk, hxl, hx, hb, he⟩ := hrel
      by_cases hlt : k < l.length
      · obtain ⟨o, hoo⟩ := get_at l k hlt
        obtain ⟨bb, off, hao, c0, ok⟩ := h.at hoo
        cases hao
        have d0 := he.cell c0
        have HX : Hid ((xs.set k (sV o)).take (k + 1) = (l.take (k + 1)).map sV) := by
          show _ = _
          rw [take_set_succ _ _ _ (by omega), map_take_succ sV hoo, hx.out]
        clear hoo c0 hx
        go_wp2_with (refine wpList_st1 _ rfl 9 _ _ rfl w.heap.size k xs (.string o) rfl hb rfl Try.info9 (by omega) rfl ?_; intro w1 hb1 hg1; have he1 := ext_st he hg1 (Nat.le_refl _))
        go_roundw
        case rel => exact ⟨k + 1, _, by go_num, by omega, by simp [hxl], HX, hb1, he1⟩
        case measure => simp [intOf]; omega
      · obtain rfl : k = l.length := by omega
        have hst : StrsAt wr (.slice (some ⟨w.heap.size, 0, none⟩) l.length l.length) l := by
          have h3 := hx.out
          rw [← hxl, List.take_length, hxl, List.take_length] at h3
          rw [h3] at hb
          exact strs_of_blk hb h.2
        clear hx hxl hb hk hlt
        go_wp2
        go_ret
        exact ⟨_, rfl, hst, he⟩
end Go.Proofs.Qxb6609292a
