/-
  WALKS for seat b6609292a: groupBy.
-/
import Derived.Test.Qxb6609292aGroupsP
set_option linter.unusedVariables false
set_option linter.unusedSimpArgs false
namespace Go.Proofs.Qxb6609292a
open Go.RowKit Go.Maps

theorem Try.info66 : (Try.prog.info? 66).map (·.size) = some 1 := by kernel_rfl
theorem Try.info115 : (Try.prog.info? 115).map (·.size) = some 2 := by kernel_rfl
/-- Behind the first loop's i-th round. -/
def G1 (keys : List Int) (n i : Nat) (S : List Int) : Prop := S.length = n + 1 ∧ S[0]? = some 0 ∧ ∀ k : Nat, k < n → S[k + 1]? = some (cn keys i k : Int)
/-- Behind the second loop's m-th round. -/
def G2 (keys : List Int) (n m : Nat) (S : List Int) : Prop := S.length = n + 1 ∧ (∀ k : Nat, k ≤ m → S[k]? = some (off keys k : Int)) ∧ ∀ k : Nat, m ≤ k → k < n → S[k + 1]? = some (keys.count (k : Int) : Int)
/-- Behind the third loop's i-th round. -/
def G3 (keys : List Int) (n i : Nat) (M F : List Int) : Prop := M.length = off keys n ∧ F.length = n ∧ (∀ k : Nat, k < n → F[k]? = some (cn keys i k : Int)) ∧ ∀ j k : Nat, j < i → k < n → keys[j]? = some (k : Int) → M[slot keys j k]? = some (j : Int)
theorem G1.start (keys : List Int) (n : Nat) : G1 keys n 0 (List.replicate (n + 1) 0) := by
  refine ⟨by simp, by simp, fun k hk => ?_⟩
  rw [List.getElem?_replicate, if_pos (by omega), cn_zero]; rfl
theorem G1.skip {keys : List Int} {n i : Nat} {S : List Int} (h : G1 keys n i S) (hi : keys[i]? = some (-1)) : G1 keys n (i + 1) S :=
  ⟨h.1, h.2.1, fun k hk => by rw [cn_other hi (by omega)]; exact h.2.2 k hk⟩
theorem G1.step {keys : List Int} {n i k : Nat} {S : List Int} (h : G1 keys n i S) (hi : keys[i]? = some (k : Int)) (hk : k < n) : G1 keys n (i + 1) (S.set (k + 1) ((cn keys i k : Int) + 1)) := by
  obtain ⟨h1, h2, h3⟩ := h
  refine ⟨by simpa using h1, by rw [List.getElem?_set_ne (by omega)]; exact h2, fun l hl => ?_⟩
  by_cases e : l = k
  · subst e
    rw [List.getElem?_set_self (by omega), cn_same hi]; simp
  · rw [List.getElem?_set_ne (by omega), cn_other hi (by omega)]; exact h3 l hl
theorem G1.done {keys : List Int} {n : Nat} {S : List Int} (h : G1 keys n keys.length S) : G2 keys n 0 S := by
  obtain ⟨h1, h2, h3⟩ := h
  refine ⟨h1, fun k hk => ?_, fun k _ hk => ?_⟩
  · obtain rfl : k = 0 := by omega
    rw [off_zero]; exact h2
  · rw [h3 k hk, cn_full]
theorem G2.step {keys : List Int} {n m : Nat} {S : List Int} (h : G2 keys n m S) (hm : m < n) : G2 keys n (m + 1) (S.set (m + 1) ((keys.count (m : Int) : Int) + (off keys m : Int))) := by
  obtain ⟨h1, h2, h3⟩ := h
  refine ⟨by simpa using h1, fun k hk => ?_, fun k hk hkn => ?_⟩
  · by_cases e : k = m + 1
    · subst e
      rw [List.getElem?_set_self (by omega), off_succ]
      congr 1; push_cast; omega
    · rw [List.getElem?_set_ne (by omega)]; exact h2 k (by omega)
  · rw [List.getElem?_set_ne (by omega)]; exact h3 k (by omega) hkn
theorem G3.start (keys : List Int) (n : Nat) : G3 keys n 0 (List.replicate (off keys n) 0) (List.replicate n 0) := by
  refine ⟨by simp, by simp, fun k hk => ?_, fun j k hj => absurd hj (Nat.not_lt_zero _)⟩
  rw [List.getElem?_replicate, if_pos hk, cn_zero]; rfl
theorem G3.skip {keys : List Int} {n i : Nat} {M F : List Int} (h : G3 keys n i M F) (hi : keys[i]? = some (-1)) : G3 keys n (i + 1) M F := by
  obtain ⟨h1, h2, h3, h4⟩ := h
  refine ⟨h1, h2, fun k hk => by rw [cn_other hi (by omega)]; exact h3 k hk, fun j k hj hk hjk => ?_⟩
  by_cases e : j = i
  · subst e; rw [hi] at hjk; simp at hjk
  · exact h4 j k (by omega) hk hjk
theorem G3.step {keys : List Int} {n i k : Nat} {M F : List Int} (h : G3 keys n i M F) (hi : keys[i]? = some (k : Int)) (hk : k < n) : G3 keys n (i + 1) (M.set (slot keys i k) (i : Int)) (F.set k ((cn keys i k : Int) + 1)) := by
  obtain ⟨h1, h2, h3, h4⟩ := h
  have hs := slot_lt hi hk
  refine ⟨by simpa using h1, by simpa using h2, fun l hl => ?_, fun j l hj hl hjl => ?_⟩
  · by_cases e : l = k
    · subst e
      rw [List.getElem?_set_self (by omega), cn_same hi]; simp
    · rw [List.getElem?_set_ne (by omega), cn_other hi (by omega)]; exact h3 l hl
  · by_cases e : j = i
    · subst e
      have : l = k := by rw [hi] at hjl; simp at hjl; omega
      subst this
      rw [List.getElem?_set_self (by omega)]
    · rw [List.getElem?_set_ne (slot_ne hi hjl (by omega)).symm]
      exact h4 j l (by omega) hl hjl

def nil2 : List Value := [.slice none 0 0, .slice none 0 0]
def sl (g n : Nat) : Value := .slice (some ⟨g, 0, none⟩) n n
def GroupsPost (keys : List Int) (n : Nat) (w : World) : Ending → World → Prop := fun e w' =>
  ∃ gS gM S M, Grouped keys n S M ∧ Blk w' gS (S.map iI) ∧ Blk w' gM (M.map iI) ∧ w.heap.size ≤ gS ∧ w.heap.size ≤ gM ∧ e = .returned (.agg #[.slice (some ⟨gS, 0, none⟩) (n + 1) (n + 1), .slice (some ⟨gM, 0, none⟩) (off keys n) (off keys n)]) ∧ Ext w w'

set_option maxRecDepth 100000 in
set_option maxHeartbeats 3200000 in
theorem groupBy_any (keys : List Int) (n g0 : Nat) (w : World) (hK : Blk w g0 (keys.map iI)) (hok : KeysOk keys n) (hn : n ≤ 1048576) (hl : keys.length ≤ 1048576) :
    Calls Try.prog 53 #[.int .i64 n, .slice (some ⟨g0, 0, none⟩) keys.length keys.length] w (GroupsPost keys n w) := by
  have hR0 : Blk (w.alloc (.cells #[.slice none 0 0, .slice none 0 0] 115)) w.heap.size [.slice none 0 0, .slice none 0 0] := Blk.alloc w [.slice none 0 0, .slice none 0 0] 115
  go_enter Try.func53, Try.ntmps53
  go_wp2_with (at_make; refine wpList_mk _ rfl _ _ 66 rfl 3 (.int .i64 0) 1 8 Try.underlying66 Try.infos3 (n + 1) rfl rfl (by omega) (by omega) ?_; intro w0 hb0 hg0; rw [made_one _ rfl] at hb0)
  have hsz : (w.alloc (.cells #[.slice none 0 0, .slice none 0 0] 115)).heap.size = w.heap.size + 1 := by simp
  have hz0 := hR0.kept hg0 (by simp)
  have he0 : Ext w w0 := grown_ext (Ext.alloc w _) hg0 (by simp)
  rw [hsz] at hb0
  have hlt0 := hb0.lt
  have e1 := Ext.alloc w0 (.cells #[Value.slice (some ⟨w.heap.size + 1, 0, none⟩) (n + 1) (n + 1), .slice none 0 0] 115)
  have hb1 := hb0.ext e1
  have hz1 := hz0.ext e1
  have hG1 : Blk (w0.alloc (.cells #[Value.slice (some ⟨w.heap.size + 1, 0, none⟩) (n + 1) (n + 1), .slice none 0 0] 115)) w0.heap.size [Value.slice (some ⟨w.heap.size + 1, 0, none⟩) (n + 1) (n + 1), .slice none 0 0] := Blk.alloc w0 [Value.slice (some ⟨w.heap.size + 1, 0, none⟩) (n + 1) (n + 1), .slice none 0 0] 115
  have he1 := he0.trans e1
  rw [show List.replicate (n + 1) (Value.int .i64 0) = (List.replicate (n + 1) (0 : Int)).map iI by rw [List.map_replicate]; rfl] at hb1
  clear hb0 hg0 hsz hz0 he0 e1 hR0
  go_loopw [18] (fun j wr => ∃ (i : Nat) (S : List Int), j = .int .i64 i ∧ i ≤ keys.length ∧ G1 keys n i S ∧ Blk wr (w.heap.size + 1) (S.map iI) ∧ Blk wr w0.heap.size [Value.slice (some ⟨w.heap.size + 1, 0, none⟩) (n + 1) (n + 1), .slice none 0 0] ∧ Blk wr w.heap.size [.slice none 0 0, .slice none 0 0] ∧ Ext w wr) (fun i _ => keys.length - (intOf i).toNat)
  case atStart => exact ⟨0, _, rfl, Nat.zero_le _, G1.start keys n, hb1, hG1, hz1, he1⟩
  case round =>
    clear hb1 hG1 hz1 he1
    obtain ⟨i, S, rfl, hi, h1, hb, hG, hz, he⟩ := hrel
    by_cases hlt : i < keys.length
    · obtain ⟨z, hzz⟩ := get_at keys i hlt
      have dK := he.cell (cell_iI hK hzz)
      rcases hok i z hzz with rfl | ⟨k, rfl, hk⟩
      · have h1' := h1.skip hzz
        clear h1 hzz
        go_wp2_with fail
        go_roundw
        case rel => exact ⟨i + 1, S, by go_num, by omega, h1', hb, hG, hz, he⟩
        case measure => simp [intOf]; omega
      · have h1' := h1.step hzz hk
        have cS := cell_iI hb (h1.2.2 k hk)
        have cG : wr.cell? ⟨w0.heap.size, 0, none⟩ = some (Value.slice (some ⟨w.heap.size + 1, 0, none⟩) (n + 1) (n + 1)) := hG.cell rfl
        have hcn : cn keys i k ≤ 1048576 := by have := cn_lt hzz; have := List.count_le_length (a := (k : Int)) (l := keys); omega
        have hSl := h1.1
        have HSL : Hid (S.length = n + 1) := hSl
        clear h1 hzz hSl
        go_wp2_with (refine wpList_st1 _ rfl 3 (.tmp 31) (.tmp 30) rfl (w.heap.size + 1) (k + 1) (S.map iI) (.int .i64 ((cn keys i k : Int) + 1)) rfl hb rfl Try.info3 (by have := HSL.out; simp; omega) rfl ?_; intro w2 hb2 hg2; rw [map_set_iI] at hb2; have hG2 := hG.kept hg2 (sne (by omega)); have hz2 := hz.kept hg2 (sne (by omega)); have he2 := ext_st he hg2 (by omega))
        go_roundw
        case rel => exact ⟨i + 1, _, by go_num, by omega, h1', hb2, hG2, hz2, he2⟩
        case measure => simp [intOf]; omega
    · obtain rfl : i = keys.length := by omega
      have h2 := h1.done
      clear h1
      rename World => w2
      go_wp2_with fail
      go_loopw [34] (fun j wr => ∃ (m : Nat) (S : List Int), j = .int .i64 m ∧ m ≤ n ∧ G2 keys n m S ∧ Blk wr (w.heap.size + 1) (S.map iI) ∧ Blk wr w0.heap.size [Value.slice (some ⟨w.heap.size + 1, 0, none⟩) (n + 1) (n + 1), .slice none 0 0] ∧ Blk wr w.heap.size [.slice none 0 0, .slice none 0 0] ∧ Ext w wr) (fun i _ => n - (intOf i).toNat)
      case atStart => exact ⟨0, S, rfl, Nat.zero_le _, h2, hb, hG, hz, he⟩
      case round =>
        clear h2 hb hG hz he
        obtain ⟨m, S, rfl, hm, h2, hb, hG, hz, he⟩ := hrel
        by_cases hlm : m < n
        · have cS1 := cell_iI hb (h2.2.2 m (Nat.le_refl _) hlm)
          have cS0 := cell_iI hb (h2.2.1 m (Nat.le_refl _))
          have cG : wr.cell? ⟨w0.heap.size, 0, none⟩ = some (Value.slice (some ⟨w.heap.size + 1, 0, none⟩) (n + 1) (n + 1)) := hG.cell rfl
          have cF := hb.frozen
          have hc1 : keys.count (m : Int) ≤ 1048576 := by have := List.count_le_length (a := (m : Int)) (l := keys); omega
          have hc2 : off keys m ≤ 1048576 := by have := off_le keys m; omega
          have HSL : Hid (S.length = n + 1) := h2.1
          have hbs := blk_set1 hb (i := m + 1) (by have := HSL.out; simp; omega) (.int .i64 ((keys.count (m : Int) : Int) + (off keys m : Int)))
          have h2' := h2.step hlm
          clear h2
          go_upto_region 11 with fail
          go_big_region
          go_wp2
          have hgd := grown_drew hbs.2
          have hb3 := hbs.1
          rw [map_set_iI] at hb3
          go_roundw
          case rel => exact ⟨m + 1, _, by go_num, by omega, h2', hb3.drew, hG.kept hgd (sne (by omega)), hz.kept hgd (sne (by omega)), ext_st he hgd (by omega)⟩
          case measure => simp [intOf]; omega
        · obtain rfl : m = n := by omega
          have hS := h2.2.1
          have HSL : Hid (S.length = m + 1) := h2.1
          have HS : Hid (∀ k : Nat, k ≤ m → S[k]? = some (off keys k : Int)) := hS
          have cSn := cell_iI hb (hS m (Nat.le_refl _))
          have cG : wr.cell? ⟨w0.heap.size, 0, none⟩ = some (Value.slice (some ⟨w.heap.size + 1, 0, none⟩) (m + 1) (m + 1)) := hG.cell rfl
          have hon : off keys m ≤ 1048576 := by have := off_le keys m; omega
          rename World => w3
          have hl3 := hG.lt
          clear h2 hS
          go_wp2_with (first
            | (at_make; refine wpList_mk w3 rfl (.tmp 55) (.tmp 55) 66 rfl 3 (.int .i64 0) 1 8 Try.underlying66 Try.infos3 (off keys m) rfl rfl (by omega) (by omega) ?_; intro w4 hM0 hg4; rw [made_one _ rfl] at hM0; have hG4 := hG.kept hg4 (by simp); have hb4 := hb.kept hg4 (by simp); have hz4 := hz.kept hg4 (by simp); have he4 := grown_ext he hg4 (by simp); have hl4 := hg4.size)
            | (refine wpList_st1 _ rfl 66 (.tmp 57) (.tmp 56) rfl w0.heap.size 1 _ (.slice (some ⟨w3.heap.size, 0, none⟩) (off keys m) (off keys m)) rfl hG4 rfl Try.info66 (by simp) rfl ?_; intro w5 hG5 hg5; have hM5 := hM0.kept hg5 (sne (by omega)); have hb5 := hb4.kept hg5 (sne (by omega)); have hz5 := hz4.kept hg5 (sne (by omega)); have he5 := ext_st he4 hg5 (by omega); have hl5 := hg5.size)
            | (at_make; refine wpList_mk w5 rfl (.tmp 58) (.tmp 58) 66 rfl 3 (.int .i64 0) 1 8 Try.underlying66 Try.infos3 m rfl rfl (by omega) (by omega) ?_; intro w6 hF0 hg6; rw [made_one _ rfl] at hF0; have hG6 := hG5.kept hg6 (by simp); have hb6 := hb5.kept hg6 (by simp); have hz6 := hz5.kept hg6 (by simp); have hM6 := hM5.kept hg6 (by simp); have he6 := grown_ext he5 hg6 (by simp)))
          have hl6 := hM5.lt
          rw [show List.replicate (off keys m) (Value.int .i64 0) = (List.replicate (off keys m) (0 : Int)).map iI by rw [List.map_replicate]; rfl] at hM6
          rw [show List.replicate m (Value.int .i64 0) = (List.replicate m (0 : Int)).map iI by rw [List.map_replicate]; rfl] at hF0
          clear hM0 hM5 hg4 hg5 hg6 hG4 hG5 hb4 hb5 hz4 hz5 he4 he5 cSn cG hb hG hz he
          go_loopw [62] (fun j wr => ∃ (i : Nat) (M F : List Int), j = .int .i64 i ∧ i ≤ keys.length ∧ G3 keys m i M F ∧ Blk wr w3.heap.size (M.map iI) ∧ Blk wr w5.heap.size (F.map iI) ∧ Blk wr (w.heap.size + 1) (S.map iI) ∧ Blk wr w0.heap.size [Value.slice (some ⟨w.heap.size + 1, 0, none⟩) (m + 1) (m + 1), .slice (some ⟨w3.heap.size, 0, none⟩) (off keys m) (off keys m)] ∧ Blk wr w.heap.size [.slice none 0 0, .slice none 0 0] ∧ Ext w wr) (fun i _ => keys.length - (intOf i).toNat)
          case atStart => exact ⟨0, _, _, rfl, Nat.zero_le _, G3.start keys m, hM6, hF0, hb6, hG6, hz6, he6⟩
          case round =>
            clear hM6 hF0 hb6 hG6 hz6 he6
            obtain ⟨i, M, F, rfl, hi, h3, hM, hF, hb, hG, hz, he⟩ := hrel
            by_cases hlt : i < keys.length
            · obtain ⟨z, hzz⟩ := get_at keys i hlt
              have dK := he.cell (cell_iI hK hzz)
              rcases hok i z hzz with rfl | ⟨k, rfl, hk⟩
              · have h3' := h3.skip hzz
                clear h3 hzz
                go_wp2_with fail
                go_roundw
                case rel => exact ⟨i + 1, M, F, by go_num, by omega, h3', hM, hF, hb, hG, hz, he⟩
                case measure => simp [intOf]; omega
              · have h3' := h3.step hzz hk
                have hsl := slot_lt hzz hk
                have cS := cell_iI hb (HS.out k (by omega))
                have cF := cell_iI hF (h3.2.2.1 k hk)
                have cG0 : wr.cell? ⟨w0.heap.size, 0, none⟩ = some (Value.slice (some ⟨w.heap.size + 1, 0, none⟩) (m + 1) (m + 1)) := hG.cell rfl
                have cG1 : wr.cell? ⟨w0.heap.size, 1, none⟩ = some (.slice (some ⟨w3.heap.size, 0, none⟩) (off keys m) (off keys m)) := hG.cell rfl
                have hMl : M.length = off keys m := h3.1
                have hFl : F.length = m := h3.2.1
                obtain ⟨y, hy⟩ := get_at M (off keys k + cn keys i k) (by rw [hMl]; exact hsl)
                have cM := cell_iI hM hy
                have fM := hM.frozen
                have hsl' : off keys k + cn keys i k < off keys m := hsl
                have hbs := blk_set1 hM (i := off keys k + cn keys i k) (by rw [List.length_map, hMl]; exact hsl) (.int .i64 i)
                have hgd := grown_drew hbs.2
                have hF2 := hF.kept hgd (sne (by omega))
                have cF2 := cell_iI hF2 (h3.2.2.1 k hk)
                have HFL : Hid (F.length = m) := hFl
                have hM3 := hbs.1
                rw [map_set_iI] at hM3
                clear h3 hzz hy hMl hFl hsl
                go_upto_region 19 with fail
                go_big_region
                go_wp2_with (refine wpList_st1 _ rfl 3 (.tmp 88) (.tmp 87) rfl w5.heap.size k (F.map iI) (.int .i64 ((cn keys i k : Int) + 1)) rfl hF2 rfl Try.info3 (by have := HFL.out; simp; omega) rfl ?_; intro w7 hF7 hg7; rw [map_set_iI] at hF7)
                go_roundw
                case rel => exact ⟨i + 1, _, _, by go_num, by omega, h3', hM3.drew.kept hg7 (sne (by omega)), hF7, (hb.kept hgd (sne (by omega))).kept hg7 (sne (by omega)), (hG.kept hgd (sne (by omega))).kept hg7 (sne (by omega)), (hz.kept hgd (sne (by omega))).kept hg7 (sne (by omega)), ext_st (ext_st he hgd (by omega)) hg7 (by omega)⟩
                case measure => simp [intOf]; omega
            · obtain rfl : i = keys.length := by omega
              have k0 : wr.cell? ⟨w0.heap.size, 0, none⟩ = some (Value.slice (some ⟨w.heap.size + 1, 0, none⟩) (m + 1) (m + 1)) := hG.cell rfl
              have k1 : wr.cell? ⟨w0.heap.size, 1, none⟩ = some (.slice (some ⟨w3.heap.size, 0, none⟩) (off keys m) (off keys m)) := hG.cell rfl
              have hgr : Grouped keys m S M := ⟨HSL.out, HS.out, h3.1, fun j l hl hj => h3.2.2.2 j l ((List.getElem?_eq_some_iff.1 hj).1) hl hj⟩
              clear h3
              go_wp2_with (refine wpList_st _ rfl 115 (.tmp 4) (.tmp 90) rfl w.heap.size 0 _ (.agg #[Value.slice (some ⟨w.heap.size + 1, 0, none⟩) (m + 1) (m + 1), .slice (some ⟨w3.heap.size, 0, none⟩) (off keys m) (off keys m)]) [Value.slice (some ⟨w.heap.size + 1, 0, none⟩) (m + 1) (m + 1), .slice (some ⟨w3.heap.size, 0, none⟩) (off keys m) (off keys m)] rfl hz rfl rfl Try.info115 (by simp) (by simp [Value.oneCell']) ?_; intro w8 hR8 hg8)
              have hR8' : Blk w8 w.heap.size [Value.slice (some ⟨w.heap.size + 1, 0, none⟩) (m + 1) (m + 1), .slice (some ⟨w3.heap.size, 0, none⟩) (off keys m) (off keys m)] := hR8
              have j0 : w8.cell? ⟨w.heap.size, 0, none⟩ = some (Value.slice (some ⟨w.heap.size + 1, 0, none⟩) (m + 1) (m + 1)) := hR8'.cell rfl
              have j1 : w8.cell? ⟨w.heap.size, 1, none⟩ = some (.slice (some ⟨w3.heap.size, 0, none⟩) (off keys m) (off keys m)) := hR8'.cell rfl
              refine bodyPost_ret (v := .agg #[Value.slice (some ⟨w.heap.size + 1, 0, none⟩) (m + 1) (m + 1), .slice (some ⟨w3.heap.size, 0, none⟩) (off keys m) (off keys m)]) (by simp [results, Try.results53, go_sem, j0, j1]) rfl ⟨_, _, S, M, hgr, hb.kept hg8 (sne (by omega)), hM.kept hg8 (sne (by omega)), by omega, by omega, rfl, ext_st he hg8 (Nat.le_refl _)⟩
end Go.Proofs.Qxb6609292a
