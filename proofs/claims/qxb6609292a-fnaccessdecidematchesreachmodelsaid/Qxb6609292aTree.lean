/-
  WALKS for seat b6609292a: NewTree.
-/
import Derived.Test.Qxb6609292aTreeT
set_option linter.unusedVariables false
set_option linter.unusedSimpArgs false
namespace Go.Proofs.Qxb6609292a
open Go.RowKit Go.Maps

set_option maxRecDepth 100000 in
set_option maxHeartbeats 3200000 in
theorem newTree_any (v : Value) (os : List Org) (w : World) (h : OrgsAt w v os) (hn : os.length ≤ 1048576) (hids : Hid (IdsOk (os.map Org.id))) (hpar : Hid (∀ o ∈ os, o.parent = ⟨#[]⟩ ∨ o.parent ∈ os.map Org.id)) (hends : Hid (∀ q : Nat, q < os.length → Ends (parL os) q)) :
    Calls Try.prog 27 #[v] w (TreePost os w) := by
  obtain ⟨ao, cap, rfl, hcap⟩ := h.shape
  have hV : Blk (w.alloc (.cells #[.slice ao os.length cap] 40)) w.heap.size [.slice ao os.length cap] := Blk.alloc w [.slice ao os.length cap] 40
  have hx0 := Ext.alloc w (.cells #[.slice ao os.length cap] 40)
  go_enter Try.func27, Try.ntmps27
  go_wp2_with (first
    | (go_at_call 50; refine (indexOrgs_any _ os _ (h.ext hx0) hn hids.out).mono ?_; rintro e w1 ⟨bp, rfl, hm1, hx1⟩; have hV1 := hV.ext hx1; have he1 := hx0.trans hx1; have cV1 : w1.cell? ⟨w.heap.size, 0, none⟩ = some (.slice ao os.length cap) := hV1.cell rfl)
    | (at_make; refine wpList_mk w1 rfl (.tmp 35) (.tmp 35) 26 rfl 9 (.string ⟨#[]⟩) 1 16 Try.underlying26 Try.infos9 os.length rfl rfl (by omega) (by omega) ?_; intro w2 hi2 hg2; rw [made_one _ rfl] at hi2; have hV2 := hV1.kept hg2 (by simp); have hx2 : Ext w1 w2 := grown_ext (Ext.refl _) hg2 (by simp); have hx3 := Ext.alloc w2 (.cells #[.slice (some ⟨w1.heap.size, 0, none⟩) os.length os.length, .map (some bp), .slice none 0 0, .slice none 0 0, .slice none 0 0, .slice none 0 0, .slice none 0 0] 136); have cV3 : (w2.alloc (.cells #[.slice (some ⟨w1.heap.size, 0, none⟩) os.length os.length, .map (some bp), .slice none 0 0, .slice none 0 0, .slice none 0 0, .slice none 0 0, .slice none 0 0] 136)).cell? ⟨w.heap.size, 0, none⟩ = some (.slice ao os.length cap) := (hV2.ext hx3).cell rfl))
  have hT3 : Blk (w2.alloc (.cells #[.slice (some ⟨w1.heap.size, 0, none⟩) os.length os.length, .map (some bp), .slice none 0 0, .slice none 0 0, .slice none 0 0, .slice none 0 0, .slice none 0 0] 136)) w2.heap.size [.slice (some ⟨w1.heap.size, 0, none⟩) os.length os.length, .map (some bp), .slice none 0 0, .slice none 0 0, .slice none 0 0, .slice none 0 0, .slice none 0 0] := Blk.alloc w2 [.slice (some ⟨w1.heap.size, 0, none⟩) os.length os.length, .map (some bp), .slice none 0 0, .slice none 0 0, .slice none 0 0, .slice none 0 0, .slice none 0 0] 136
  have hV3 := hV2.ext hx3
  have hi3 := hi2.ext hx3
  have hm3 := hm1.ext (hx2.trans hx3)
  have he3 := he1.trans (hx2.trans hx3)
  have hl1 := hV1.lt
  have hl2 := hi2.lt
  have hbp := hm1.lt
  clear hV hx0 hV1 hm1 he1 cV1 hg2 hi2 hV2 hx2 cV3 hx3 hx1
  go_loopw [42] (fun j wr => ∃ (k : Nat) (xs : List Value), j = .int .i64 k ∧ k ≤ os.length ∧ xs.length = os.length ∧ Hid (xs.take k = ((os.map Org.id).take k).map sV) ∧ Blk wr w1.heap.size xs ∧ Blk wr w2.heap.size [.slice (some ⟨w1.heap.size, 0, none⟩) os.length os.length, .map (some bp), .slice none 0 0, .slice none 0 0, .slice none 0 0, .slice none 0 0, .slice none 0 0] ∧ Blk wr w.heap.size [.slice ao os.length cap] ∧ SM wr 3 bp os.length (posF (os.map Org.id) (os.map Org.id).length) ∧ Ext w wr ∧ w2.heap.size < wr.heap.size) (fun i _ => os.length - (intOf i).toNat)
  case atStart => exact ⟨0, _, rfl, Nat.zero_le _, by simp, by simp [Hid], hi3, hT3, hV3, hm3, he3, hT3.lt⟩
  case round =>
    clear hi3 hT3 hV3 hm3 he3
    obtain ⟨k, xs, rfl, hk, hxl, hx, hi, hT, hV, hm, he, hl⟩ := hrel
    by_cases hlt : k < os.length
    · obtain ⟨o, ho⟩ := get_at os k hlt
      obtain ⟨bb, off, rfl, c0, c1, c2, ok⟩ := h.at ho
      have d0 := he.cell c0
      have d1 := he.cell c1
      have d2 := he.cell c2
      have hx1 := Ext.alloc wr (.cells #[.string o.id, .string o.name, .string o.parent] 118)
      have hi1 := hi.ext hx1
      have cT0 : (wr.alloc (.cells #[.string o.id, .string o.name, .string o.parent] 118)).cell? ⟨w2.heap.size, 0, none⟩ = some (.slice (some ⟨w1.heap.size, 0, none⟩) os.length os.length) := (hT.ext hx1).cell rfl
      obtain ⟨y, hy⟩ := get_at xs k (by omega)
      have cy := hi1.cell hy
      have fy := hi1.frozen
      have hbs := blk_set1 hi1 (i := k) (by omega) (.string o.id)
      have hgd := grown_drew hbs.2
      have HX : Hid ((xs.set k (sV o.id)).take (k + 1) = ((os.map Org.id).take (k + 1)).map sV) := gather_succ ho hxl hx.out
      clear ho c0 c1 c2 hy hx
      go_upto_region 10 with fail
      go_big_region
      go_wp2
      go_roundw
      case rel => exact ⟨k + 1, _, by go_num, by omega, by simp [hxl], HX, hbs.1.drew, (hT.ext hx1).kept hgd (sne (by omega)), (hV.ext hx1).kept hgd (sne (by omega)), (hm.ext hx1).kept hgd (sne (by omega)), ext_st (he.trans hx1) hgd (by omega), Nat.lt_of_lt_of_le (Nat.lt_of_lt_of_le hl hx1.size) hgd.size⟩
      case measure => simp [intOf]; omega
    · obtain rfl : k = os.length := by omega
      have hst := strs_gather hi hxl hx.out (fun o ho' => (h.2 o ho').1)
      have cV : wr.cell? ⟨w.heap.size, 0, none⟩ = some (.slice ao os.length cap) := hV.cell rfl
      rename World => w3
      clear hx hk hlt
      go_wp2_with (at_make; refine wpList_mk w3 rfl (.tmp 56) (.tmp 56) 66 rfl 3 (.int .i64 0) 1 8 Try.underlying66 Try.infos3 os.length rfl rfl (by omega) (by omega) ?_; intro w4 hp4 hg4; rw [made_one _ rfl] at hp4; have hx4 : Ext w3 w4 := grown_ext (Ext.refl _) hg4 (by simp); have cV4 := hx4.cell cV)
      have hl4 := hp4.lt
      go_loopw [60] (fun j wr => ∃ (k : Nat) (ps : List Value), j = .int .i64 k ∧ k ≤ os.length ∧ ps.length = os.length ∧ Hid (ps.take k = ((parL os).take k).map iI) ∧ Blk wr w3.heap.size ps ∧ Ext w3 wr ∧ w3.heap.size < wr.heap.size) (fun i _ => os.length - (intOf i).toNat)
      case atStart => exact ⟨0, _, rfl, Nat.zero_le _, by simp, by simp [Hid], hp4, hx4, hl4⟩
      case round =>
        clear hp4 hg4 hx4 cV4 hl4
        obtain ⟨k, ps, rfl, hk, hpl, hpx, hp, hx, hl5⟩ := hrel
        by_cases hlt : k < os.length
        · obtain ⟨o, ho⟩ := get_at os k hlt
          obtain ⟨bb, off, rfl, c0, c1, c2, ok⟩ := h.at ho
          have d0 := (he.trans hx).cell c0
          have d1 := (he.trans hx).cell c1
          have d2 := (he.trans hx).cell c2
          have hxa := Ext.alloc wr (.cells #[.string o.id, .string o.name, .string o.parent] 118)
          have hC := Blk.alloc wr [.string o.id, .string o.name, .string o.parent] 118
          have hpa := hp.ext hxa
          have HP : Hid ((parL os)[k]? = some (parOf (os.map Org.id) o)) := by show _ = _; unfold parL; rw [List.getElem?_map, ho]; rfl
          have HX : ∀ z : Int, parOf (os.map Org.id) o = z → Hid ((ps.set k (iI z)).take (k + 1) = ((parL os).take (k + 1)).map iI) := by
            intro z hz
            show _ = _
            rw [take_set_succ _ _ _ (by omega), map_take_succ iI HP.out, hpx.out, hz]
          have hpo := hpar.out o (List.mem_of_getElem? ho)
          rcases str_empty o.parent with ⟨e1, e2⟩ | ⟨e1, e2⟩
          · have HX2 := HX (-1) (parOf_empty e1)
            clear HX ho c0 c1 c2 hpo
            go_wp2_with (refine wpList_st1 _ rfl 3 (.tmp 67) _ rfl w3.heap.size k ps (.int .i64 (-1)) rfl hpa rfl Try.info3 (by omega) rfl ?_; intro w5 hp5 hg5; have hC5 : w5.cell? ⟨wr.heap.size, 2, none⟩ = some (.string o.parent) := (hC.kept hg5 (sne (by omega))).cell rfl)
            go_roundw
            case rel => exact ⟨k + 1, _, by go_num, by omega, by simp [hpl], HX2, hp5, ext_st (hx.trans hxa) hg5 (Nat.le_refl _), Nat.lt_of_lt_of_le (Nat.lt_of_lt_of_le hl5 hxa.size) hg5.size⟩
            case measure => simp [intOf]; omega
          · rcases hpo with hpo | hpo
            · exact absurd hpo e2
            cases hq : idxTo (os.map Org.id) (os.map Org.id).length o.parent with
            | none => exact absurd hpo (idx_none_iff.1 hq)
            | some q =>
              have HX2 := HX q (parOf_some e1 hq)
              have hlk := fun (wn : World) (hxn : Ext w3 wn) => (hm.ext hxn).pos ok.2.2 hq
              clear HX ho c0 c1 c2 hpo hq
              go_upto_region 18 with (refine wpList_st1 _ rfl 3 (.tmp 67) _ rfl w3.heap.size k ps (.int .i64 (-1)) rfl hpa rfl Try.info3 (by omega) rfl ?_; intro w5 hp5 hg5; have hC5 : w5.cell? ⟨wr.heap.size, 2, none⟩ = some (.string o.parent) := (hC.kept hg5 (sne (by omega))).cell rfl; have hx5 := ext_st (hx.trans hxa) hg5 (Nat.le_refl _); have cT5 : w5.cell? ⟨w2.heap.size, 1, none⟩ = some (.map (some bp)) := (hT.ext hx5).cell rfl; have hlk5 := hlk w5.drew hx5.drawn; clear hlk)
              have hp5d : Blk w5.drew w3.heap.size (ps.set k (.int .i64 (-1))) := hp5
              go_big_region
              go_wp2_with (refine wpList_st1 _ rfl 3 (.tmp 89) (.tmp 88) rfl w3.heap.size k _ (.int .i64 q) rfl hp5d rfl Try.info3 (by simp; omega) rfl ?_; intro w6 hp6 hg6)
              go_roundw
              case rel => exact ⟨k + 1, _, by go_num, by omega, by simp [hpl], by rw [List.set_set]; exact HX2, hp6, ext_st hx5.drawn hg6 (Nat.le_refl _), Nat.lt_of_lt_of_le (Nat.lt_of_lt_of_le (Nat.lt_of_lt_of_le hl5 hxa.size) hg5.size) hg6.size⟩
              case measure => simp [intOf]; omega
        · obtain rfl : k = os.length := by omega
          have hpP : Blk wr w3.heap.size ((parL os).map iI) := by
            have h3 := hpx.out
            have e2 : (parL os).take os.length = parL os := by rw [← parL_len os, List.take_length]
            rw [← hpl, List.take_length, hpl, e2] at h3
            rw [← h3]; exact hp
          have hT7 := hT.ext hx
          have hst7 := hst.ext hx
          have hm7 := hm.ext hx
          have he7 := he.trans hx
          rename World => w7
          clear hp hpx hpl hT hst hm he hV cV hx hi hk hlt hxl
          have hb0 := he7.size
          repeat (first | (exact newTree_t os w w2.heap.size w1.heap.size w3.heap.size bp hn (by omega) (by omega) (by omega) (by omega) (by omega) (by omega) hends w7 hT7 hpP hst7 hm7 he7) | go_values | go_skip | go_guarded | go_step | go_upon | (simp only [Int.not_lt, Int.not_le] at *; go_simp))
end Go.Proofs.Qxb6609292a
