/-
  WALKS for seat b6609292a: firstInCycle over a forest.
-/
import Derived.Test.Qxb6609292aIndex2
set_option linter.unusedVariables false
set_option linter.unusedSimpArgs false
namespace Go.Proofs.Qxb6609292a
open Go.RowKit Go.Maps

def uI (z : Int) : Value := .int .u8 z
theorem map_set_uI (st : List Int) (q : Nat) (z : Int) : (st.map uI).set q (.int .u8 z) = (st.set q z).map uI := by rw [List.map_set]; rfl
theorem cell_uI {w : World} {g : Nat} {st : List Int} (h : Blk w g (st.map uI)) {q : Nat} {z : Int} (hq : st[q]? = some z) : w.cell? ⟨g, q, none⟩ = some (.int .u8 z) := h.cell (by rw [List.getElem?_map, hq]; rfl)
theorem Try.infos5 : (Try.prog.info? 5).map (fun i => (i.zero, i.size, i.bytes)) = some (some (.int .u8 0), 1, 1) := by kernel_rfl
theorem Try.info5 : (Try.prog.info? 5).map (·.size) = some 1 := by kernel_rfl

def FOut (P st : List Int) : Prop := st.length = P.length ∧ ∀ (q : Nat) (z : Int), st[q]? = some z → z = 0 ∨ z = 2
def FIn (P st : List Int) (rank : Nat → Nat) (js : List Int) (j : Int) : Prop :=
  st.length = P.length ∧ dom3 st ∧ (∀ q : Nat, st[q]? = some 1 → (q : Int) ∈ js) ∧ (∀ q r : Nat, st[q]? = some 1 → j = r → rank r < rank q) ∧
  (∀ a ∈ js, ∃ q : Nat, a = q ∧ q < P.length) ∧ js.length + cnt st ≤ P.length ∧ (j = -1 ∨ ∃ q : Nat, j = q ∧ q < P.length)
def FMk (P st : List Int) (js : List Int) (k : Nat) : Prop :=
  st.length = P.length ∧ dom3 st ∧ (∀ q : Nat, st[q]? = some 1 → (q : Int) ∈ js.drop k) ∧ (∀ a ∈ js, ∃ q : Nat, a = q ∧ q < P.length) ∧ js.length ≤ P.length
theorem FOut.start (P : List Int) : FOut P (List.replicate P.length 0) := by
  refine ⟨by simp, ?_⟩
  intro q z h
  rw [List.getElem?_replicate] at h
  split at h
  · simp at h; omega
  · cases h
theorem FOut.enter {P st : List Int} {rank : Nat → Nat} {i : Nat} (h : FOut P st) (hi : i < P.length) : FIn P st rank [] i := by
  obtain ⟨h1, h2⟩ := h
  refine ⟨h1, fun q z hq => ?_, fun q hq => ?_, fun q r hq => ?_, by simp, ?_, Or.inr ⟨i, rfl, hi⟩⟩
  · rcases h2 q z hq with h | h
    · exact Or.inl h
    · exact Or.inr (Or.inr h)
  · rcases h2 q 1 hq with h | h <;> omega
  · rcases h2 q 1 hq with h | h <;> omega
  · have := List.count_le_length (a := (0 : Int)) (l := st)
    unfold cnt; simp; omega
theorem FIn.step {P st : List Int} {rank : Nat → Nat} {q : Nat} {js : List Int} {z : Int} (h : FIn P st rank js q) (hR : Rng P) (hK : Ranked P rank) (h0 : st[q]? = some 0) (hz : P[q]? = some z) : FIn P (st.set q 1) rank (js ++ [(q : Int)]) z := by
  obtain ⟨h1, h2, h5, h6, h8, h9, h10⟩ := h
  refine ⟨by simpa using h1, dom3_set h2 q 1 (by simp), fun r hr => ?_, fun r s hr hs => ?_, fun a ha => ?_, ?_, hR q z hz⟩
  · rcases set_get hr with ⟨rfl, h⟩ | ⟨_, h⟩
    · simp
    · simp [h5 r h]
  · have hlt : rank s < rank q := hK q s (by rw [hz, hs])
    rcases set_get hr with ⟨rfl, h⟩ | ⟨_, h⟩
    · exact hlt
    · exact Nat.lt_trans hlt (h6 r q h rfl)
  · rcases List.mem_append.1 ha with h | h
    · exact h8 a h
    · simp at h; rw [h]; exact ⟨q, rfl, (List.getElem?_eq_some_iff.1 hz).1⟩
  · have := cnt_set h0
    simp; omega
theorem FIn.mark {P st : List Int} {rank : Nat → Nat} {js : List Int} {j : Int} (h : FIn P st rank js j) : FMk P st js 0 := by
  obtain ⟨h1, h2, h5, h6, h8, h9, h10⟩ := h
  exact ⟨h1, h2, fun q hq => by simpa using h5 q hq, h8, by omega⟩
theorem FMk.step {P st : List Int} {k q : Nat} {js : List Int} (h : FMk P st js k) (hq : js[k]? = some (q : Int)) : FMk P (st.set q 2) js (k + 1) := by
  obtain ⟨h1, h2, h5, h8, h9⟩ := h
  have hd : js.drop k = (q : Int) :: js.drop (k + 1) := by
    have hk := (List.getElem?_eq_some_iff.1 hq).1
    rw [List.drop_eq_getElem_cons hk, (List.getElem?_eq_some_iff.1 hq).2]
  refine ⟨by simpa using h1, dom3_set h2 q 2 (by simp), fun r hr => ?_, h8, h9⟩
  rcases set_get hr with ⟨rfl, h⟩ | ⟨hne, h⟩
  · omega
  · have := h5 r h
    rw [hd] at this
    rcases List.mem_cons.1 this with h' | h'
    · omega
    · exact h'
theorem FMk.done {P st : List Int} {js : List Int} (h : FMk P st js js.length) : FOut P st := by
  obtain ⟨h1, h2, h5, h8, h9⟩ := h
  rw [List.drop_length] at h5
  refine ⟨h1, fun q z hq => ?_⟩
  rcases h2 q z hq with h | h | h
  · exact Or.inl h
  · rw [h] at hq; exact absurd (h5 q hq) (by simp)
  · exact Or.inr h

theorem own_ge' {w : World} {base e n m cap : Nat} {a : Option Addr} {xs : List Value} (h : w.ownsRow base e 1 (.slice a n cap) m xs) : ∀ g, (Value.slice a n cap).ownBlock = some g → base ≤ g := fun g hg => (h.lt g hg).1

set_option maxRecDepth 100000 in
set_option maxHeartbeats 3200000 in
theorem firstInCycle_any (P : List Int) (rank : Nat → Nat) (g0 : Nat) (w : World) (hP : Blk w g0 (P.map iI)) (hR : Rng P) (hK : Hid (Ranked P rank)) (hn : P.length ≤ 1048576) :
    Calls Try.prog 52 #[.slice (some ⟨g0, 0, none⟩) P.length P.length] w fun e w' => e = .returned (.int .i64 (-1)) ∧ Ext w w' := by
  go_enter Try.func52, Try.ntmps52
  go_wp2_with (at_make; refine wpList_mk _ rfl _ _ 158 rfl 5 (.int .u8 0) 1 1 Try.underlying158 Try.infos5 P.length rfl rfl (by omega) (by omega) ?_; intro w0 hb0 hg0; rw [made_one _ rfl] at hb0)
  have he0 : Ext w w0 := grown_ext (Ext.refl w) hg0 (by simp)
  have hlt0 := hb0.lt
  rw [show List.replicate P.length (Value.int .u8 0) = (List.replicate P.length (0 : Int)).map uI by rw [List.map_replicate]; rfl] at hb0
  go_loopw [4, 14] (fun pv iv wr => ∃ (i : Nat) (a : Option Addr) (cap : Nat) (st : List Int), pv = .slice a 0 cap ∧ iv = .int .i64 i ∧ i ≤ P.length ∧ wr.ownsRow w0.heap.size 3 1 (.slice a 0 cap) 0 [] ∧
      Blk wr w.heap.size (st.map uI) ∧ FOut P st ∧ Ext w wr ∧ w0.heap.size ≤ wr.heap.size) (fun _ i _ => P.length - (intOf i).toNat)
  case atStart => exact ⟨0, none, 0, _, rfl, rfl, Nat.zero_le _, World.ownsRow_nil _ _ _ _, hb0, FOut.start P, he0, Nat.le_refl _⟩
  case round =>
    obtain ⟨i, aA, capA, stA, rfl, rfl, hi, hown, hb, hout, he, hsz⟩ := hrel
    clear hb0 hg0 he0
    by_cases hlt : i < P.length
    · have hin := hout.enter (rank := rank) hlt
      clear hout
      rename World => WO
      go_wp2_with fail
      go_loopg [4, 6] (cnt stA) (fun gk pv jv wr => ∃ (a : Option Addr) (cap : Nat) (js : List Int) (j : Int) (st : List Int), pv = .slice a js.length cap ∧ jv = .int .i64 j ∧ wr.ownsRow w0.heap.size 3 1 (.slice a js.length cap) js.length (js.map iI) ∧
          Blk wr w.heap.size (st.map uI) ∧ FIn P st rank js j ∧ Hid (gk = cnt st) ∧ Ext w wr ∧ w0.heap.size ≤ wr.heap.size)
      case atStart => exact ⟨aA, capA, [], i, stA, rfl, rfl, hown, hb, hin, rfl, he, hsz⟩
      case round =>
        clear hown hb hin he hsz
        obtain ⟨a, cap, js, j, st, rfl, rfl, hown, hb, hin, hgk, he, hsz⟩ := hrel
        have hge := own_ge' hown
        have hj := hin.2.2.2.2.2.2
        have hst := hin.1
        have hjs : js.length ≤ 1048576 := by have := hin.2.2.2.2.2.1; omega
        rcases hj with rfl | ⟨q, rfl, hq⟩
        · have hmk := hin.mark
          clear hin hgk hge
          go_wp2_with fail
          go_loopw [50] (fun kv wr => ∃ (k : Nat) (st : List Int), kv = .int .i64 k ∧ k ≤ js.length ∧ wr.ownsRow w0.heap.size 3 1 (.slice a js.length cap) js.length (js.map iI) ∧ Blk wr w.heap.size (st.map uI) ∧ FMk P st js k ∧ Ext w wr ∧ w0.heap.size ≤ wr.heap.size) (fun k _ => js.length - (intOf k).toNat)
          case atStart => exact ⟨0, st, rfl, Nat.zero_le _, hown, hb, hmk, he, hsz⟩
          case round =>
            clear hown hb hmk he hsz
            obtain ⟨k, st, rfl, hk, hown, hb, hmk, he, hsz⟩ := hrel
            have hge := own_ge' hown
            by_cases hlk : k < js.length
            · obtain ⟨x, hx⟩ := get_at js k hlk
              obtain ⟨q, rfl, hq⟩ := hmk.2.2.2.1 x (List.mem_of_getElem? hx)
              have hst := hmk.1
              obtain ⟨g, cap', hv, hbg⟩ : ∃ g cap', Value.slice a js.length cap = .slice (some ⟨g, 0, none⟩) js.length cap' ∧ w0.heap.size ≤ g := by
                rcases hown.2 with ⟨_, h0⟩ | ⟨g, cap', cur, hv, hb', _⟩
                · omega
                · exact ⟨g, cap', hv, hb'⟩
              simp only [Value.slice.injEq, true_and] at hv
              obtain ⟨rfl, rfl⟩ := hv
              have hc : wr.cell? ⟨g, k, none⟩ = some (.int .i64 q) := by rw [hown.cellAt k (by omega), List.getElem?_map, hx]; rfl
              have hmk' := hmk.step hx
              clear hx hmk hge
              go_wp2_with (refine wpList_st1 _ rfl 5 _ _ rfl w.heap.size q (st.map uI) (.int .u8 2) rfl hb rfl Try.info5 (by simp; omega) rfl ?_; intro w2 hb2 hg2; rw [map_set_uI] at hb2; have he2 := grown_ext he hg2 (by simp); have hown2 := hown.kept hg2 (Or.inr (show some g ≠ some w.heap.size from sne (by omega))))
              go_roundw
              case rel => exact ⟨k + 1, _, by go_num, by omega, hown2, hb2, hmk', he2, Nat.le_trans hsz hg2.size⟩
              case measure => simp [intOf]; omega
            · obtain rfl : k = js.length := by omega
              have hout := hmk.done
              clear hmk hge
              rcases hown.2 with ⟨hv, h0⟩ | ⟨g, cap', cur, hv, hb', _⟩
              · simp only [Value.slice.injEq] at hv
                obtain ⟨rfl, -, rfl⟩ := hv
                have HJ : Hid (js.length = 0) := h0
                have hnil := World.ownsRow_nil wr w0.heap.size 3 1
                clear h0 hown
                go_wp2
                go_roundw
                case rel => exact ⟨i + 1, _, _, st, rfl, by go_num, by omega, hnil, hb, hout, he, hsz⟩
                case measure => simp [intOf]; omega
              · simp only [Value.slice.injEq, true_and] at hv
                obtain ⟨rfl, rfl⟩ := hv
                have hown' := own_reset hown
                clear hown
                go_wp2
                go_roundw
                case rel => exact ⟨i + 1, _, _, st, rfl, by go_num, by omega, hown', hb, hout, he, hsz⟩
                case measure => simp [intOf]; omega
        · obtain ⟨s, hs⟩ := get_at st q (by omega)
          obtain ⟨z, hz⟩ := get_at P q hq
          have cS := cell_uI hb hs
          have cP := cell_iI hP hz
          rcases hin.2.1 q s hs with rfl | rfl | rfl
          · have hin' := hin.step hR hK.out hs hz
            have hcnt := cnt_set hs
            have hjl := hin.2.2.2.2.2.1
            have hge' : ∀ g, (Value.slice a js.length cap).ownBlock = some g → w.heap.size < g := fun g hg => Nat.lt_of_lt_of_le hlt0 (hge g hg)
            clear hin hs hz hge
            go_wp2_with (first
              | (refine wpList_st1 _ rfl 5 _ _ rfl w.heap.size q (st.map uI) (.int .u8 1) rfl hb rfl Try.info5 (by simp; omega) rfl ?_; intro w2 hb2 hg2; rw [map_set_uI] at hb2; have he2 := grown_ext he hg2 (by simp); have hown2 := hown.kept hg2 (Or.inr (by intro e; have := hge' _ e; omega)))
              | (at_builtin; refine wpList_push w2 rfl (.tmp 30) (.tmp 32) rfl w0.heap.size (.slice a js.length cap) js.length (js.map iI) (.int .i64 q) rfl hown2 rfl rfl (by omega) (Nat.le_trans hsz hg2.size) ?_; intro g3 cap3 w3 hown3 hg3; have he3 := grown_ext he2 hg3 (by intro k hk; have := hge' k hk; omega); have hb3 := hb2.kept hg3 (by intro e; have := hge' _ e.symm; omega); have cP3 := he3.cell cP))
            go_roundg (cnt (st.set q 1))
            case measure => rw [hgk.out]; omega
            case rel => exact ⟨some ⟨g3, 0, none⟩, cap3, js ++ [(q : Int)], z, _, by simp, rfl, by simpa [iI] using hown3, hb3, hin', rfl, he3, Nat.le_trans (Nat.le_trans hsz hg2.size) hg3.size⟩
          · exact absurd (hin.2.2.2.1 q q hs rfl) (Nat.lt_irrefl _)
          · have hmk := hin.mark
            clear hin hgk hs hz cP hge
            go_wp2_with fail
            go_loopw [50] (fun kv wr => ∃ (k : Nat) (st : List Int), kv = .int .i64 k ∧ k ≤ js.length ∧ wr.ownsRow w0.heap.size 3 1 (.slice a js.length cap) js.length (js.map iI) ∧ Blk wr w.heap.size (st.map uI) ∧ FMk P st js k ∧ Ext w wr ∧ w0.heap.size ≤ wr.heap.size) (fun k _ => js.length - (intOf k).toNat)
            case atStart => exact ⟨0, st, rfl, Nat.zero_le _, hown, hb, hmk, he, hsz⟩
            case round =>
              clear hown hb hmk he hsz
              obtain ⟨k, st, rfl, hk, hown, hb, hmk, he, hsz⟩ := hrel
              have hge := own_ge' hown
              by_cases hlk : k < js.length
              · obtain ⟨x, hx⟩ := get_at js k hlk
                obtain ⟨q, rfl, hq⟩ := hmk.2.2.2.1 x (List.mem_of_getElem? hx)
                have hst := hmk.1
                obtain ⟨g, cap', hv, hbg⟩ : ∃ g cap', Value.slice a js.length cap = .slice (some ⟨g, 0, none⟩) js.length cap' ∧ w0.heap.size ≤ g := by
                  rcases hown.2 with ⟨_, h0⟩ | ⟨g, cap', cur, hv, hb', _⟩
                  · omega
                  · exact ⟨g, cap', hv, hb'⟩
                simp only [Value.slice.injEq, true_and] at hv
                obtain ⟨rfl, rfl⟩ := hv
                have hc : wr.cell? ⟨g, k, none⟩ = some (.int .i64 q) := by rw [hown.cellAt k (by omega), List.getElem?_map, hx]; rfl
                have hmk' := hmk.step hx
                clear hx hmk hge
                go_wp2_with (refine wpList_st1 _ rfl 5 _ _ rfl w.heap.size q (st.map uI) (.int .u8 2) rfl hb rfl Try.info5 (by simp; omega) rfl ?_; intro w2 hb2 hg2; rw [map_set_uI] at hb2; have he2 := grown_ext he hg2 (by simp); have hown2 := hown.kept hg2 (Or.inr (show some g ≠ some w.heap.size from sne (by omega))))
                go_roundw
                case rel => exact ⟨k + 1, _, by go_num, by omega, hown2, hb2, hmk', he2, Nat.le_trans hsz hg2.size⟩
                case measure => simp [intOf]; omega
              · obtain rfl : k = js.length := by omega
                have hout := hmk.done
                clear hmk hge
                rcases hown.2 with ⟨hv, h0⟩ | ⟨g, cap', cur, hv, hb', _⟩
                · simp only [Value.slice.injEq] at hv
                  obtain ⟨rfl, -, rfl⟩ := hv
                  have HJ : Hid (js.length = 0) := h0
                  have hnil := World.ownsRow_nil wr w0.heap.size 3 1
                  clear h0 hown
                  go_wp2
                  go_roundw
                  case rel => exact ⟨i + 1, _, _, st, rfl, by go_num, by omega, hnil, hb, hout, he, hsz⟩
                  case measure => simp [intOf]; omega
                · simp only [Value.slice.injEq, true_and] at hv
                  obtain ⟨rfl, rfl⟩ := hv
                  have hown' := own_reset hown
                  clear hown
                  go_wp2
                  go_roundw
                  case rel => exact ⟨i + 1, _, _, st, rfl, by go_num, by omega, hown', hb, hout, he, hsz⟩
                  case measure => simp [intOf]; omega
    · obtain rfl : i = P.length := by omega
      go_wp2
      go_ret
      exact ⟨rfl, he⟩
end Go.Proofs.Qxb6609292a
