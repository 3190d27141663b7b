/-
  WALKS for seat b6612180aD: zzbInc.
-/
import Derived.Test.Qxb6612180aDoorWalkB
namespace Go.Proofs.Qxb6612180aDoor
open Go.RowKit

/-- The row when j nines have become zeros. -/
def incAt (L n j : Nat) : List UInt8 := (rep L n).take (L - j) ++ List.replicate j 48
theorem incAt_len (L n j : Nat) (h : j ≤ L) : (incAt L n j).length = L := by
  unfold incAt
  rw [List.length_append, List.length_take, rep_length, List.length_replicate]
  omega
theorem incAt_get (d j n : Nat) : (incAt (d + 1 + j) n j)[d]? = some (dgt (n / 10 ^ j)) := by
  unfold incAt
  rw [List.getElem?_append_left (by rw [List.length_take, rep_length]; omega), List.getElem?_take, if_pos (by omega)]
  exact rep_get d j n
theorem take_succ_get (l : List UInt8) (d : Nat) (c : UInt8) (h : l[d]? = some c) : l.take (d + 1) = l.take d ++ [c] := by
  rw [List.take_add_one, h]; rfl
theorem incAt_zero (d j n : Nat) : (incAt (d + 1 + j) n j).set d 48 = incAt (d + 1 + j) n (j + 1) := by
  unfold incAt
  have e : d + 1 + j - j = d + 1 := by omega
  have e' : d + 1 + j - (j + 1) = d := by omega
  rw [e, e', take_succ_get _ d _ (rep_get d j n)]
  have hl : ((rep (d + 1 + j) n).take d).length = d := by rw [List.length_take, rep_length]; omega
  rw [List.append_assoc, List.set_append_right _ _ (by omega), hl, Nat.sub_self]
  rfl
theorem incAt_one (d j n : Nat) (h : n % 10 ^ j = 10 ^ j - 1) (h9 : (n / 10 ^ j) % 10 ≠ 9) : (incAt (d + 1 + j) n j).set d (dgt (n / 10 ^ j) + 1) = rep (d + 1 + j) (n + 1) := by
  rw [← inc_fin (d + 1 + j) n j (by omega) h h9]
  unfold incAt
  have e : d + 1 + j - j = d + 1 := by omega
  rw [e, Nat.add_sub_cancel, take_succ_get _ d _ (rep_get d j n)]
  have hl : ((rep (d + 1 + j) n).take d).length = d := by rw [List.length_take, rep_length]; omega
  rw [List.append_assoc, List.set_append_right _ _ (by omega), hl, Nat.sub_self]
  rfl
theorem map_set_Bt (l : List UInt8) (d : Nat) (c : UInt8) : (l.map Bt).set d (Bt c) = (l.set d c).map Bt := by
  rw [List.map_set]
theorem dgt_nine (m : Nat) : (((dgt m).toNat : Int) == 57) = decide (m % 10 = 9) := by
  rw [dgt_toNat, Bool.eq_iff_iff]
  simp
  omega

theorem own_cells {w : World} {B e g n cap : Nat} {xs : List Value} (h : w.ownsRow B e 1 (.slice (some ⟨g, 0, none⟩) n cap) n xs) : ∀ j u, xs[j]? = some u → w.cell? ((⟨g, 0, none⟩ : Addr).add j) = some u :=
  h.cells rfl

set_option maxHeartbeats 1600000 in
theorem inc_any (L n g cap B : Nat) (w : World) (hL : L ≤ 1000000) (hn : n < 10 ^ L) (hB : B ≤ w.heap.size) (hown0 : w.ownsRow B 5 1 (.slice (some ⟨g, 0, none⟩) L cap) L ((rep L n).map Bt)) :
    Calls Tryd.prog 17 #[.slice (some ⟨g, 0, none⟩) L cap] w fun e w' => ∃ v' L', e = .returned v' ∧ ((n + 1 < 10 ^ L ∧ L' = L) ∨ (n + 1 = 10 ^ L ∧ L' = L + 1)) ∧ w'.ownsRow B 5 1 v' L' ((rep L' (n + 1)).map Bt) ∧ Below B w w' := by
  obtain ⟨i0, hi, hz0, hz1, hz2⟩ := info_parts Tryd.info5
  have hgB : B ≤ g := (hown0.lt g rfl).1
  have HN : Hid (n < 10 ^ L) := hn
  clear hn
  go_enter Tryd.func17, Tryd.ntmps17
  go_wp2_with fail
  go_loopw [3] (fun i wr => ∃ j d : Nat, d + j = L ∧ i = .int .i64 ((d : Int) - 1) ∧ Hid (n % 10 ^ j = 10 ^ j - 1) ∧ wr.ownsRow B 5 1 (.slice (some ⟨g, 0, none⟩) L cap) L ((incAt L n j).map Bt) ∧ Below B w wr) (fun i _ => (intOf i + 1).toNat)
  case atStart =>
    refine ⟨0, L, rfl, rfl, by show _ = _; simp [Nat.mod_one], ?_, Below.refl _ _⟩
    have e : incAt L n 0 = rep L n := by unfold incAt; simp [List.take_of_length_le (Nat.le_of_eq (rep_length L n))]
    rw [e]; exact hown0
  case round =>
    obtain ⟨j, d, hdj, rfl, hmod, hown, hb⟩ := hrel
    clear hown0
    have hsz := hb.size
    by_cases hd : d = 0
    · subst hd
      obtain rfl : j = L := by omega
      have e : incAt j n j = List.replicate j 48 := by unfold incAt; simp
      rw [e] at hown
      have HA : Hid (49 :: List.replicate j 48 = rep (j + 1) (n + 1)) := inc_all j n HN.out hmod.out
      have hcap : n + 1 = 10 ^ j := by
        have := hmod.out
        rw [Nat.mod_eq_of_lt HN.out] at this
        have := pow_pos' j
        omega
      have HC : Hid (n + 1 = 10 ^ j) := hcap
      clear hcap hmod e
      have hgl : g < wr.heap.size := (hown.lt g rfl).2
      go_wp2_with (first
        | (at_make; refine wpList_make_own _ rfl _ _ 35 rfl B 5 i0 (.int .u8 0) 1 Tryd.underlying35 hi hz0 hz1 .i64 .i64 _ (j + 1) rfl rfl (by omega) (by rw [hz2]; omega) (by unfold maxLen; omega) (by omega) ?_; intro w1 hown1 hgrow1)
        | (at_builtin; refine wpList_append_fits _ rfl (.tmp 33) (.tmp 34) 35 rfl B 5 i0 1 Tryd.underlying35 hi hz1 wr.heap.size 0 (j + 1) _ rfl (hown1.alloc _) ⟨w1.heap.size, 0, none⟩ 1 1 [.int .u8 49] rfl rfl (cell_new _ _ _) (one_int _ _) (by omega) ?_; intro w2 hown2 hgrow2)
        | (at_builtin; refine wpList_append_fits _ rfl (.tmp 36) (.tmp 37) 35 rfl B 5 i0 1 Tryd.underlying35 hi hz1 wr.heap.size 1 (j + 1) _ rfl (by simpa using hown2) ⟨g, 0, none⟩ j cap ((List.replicate j 48).map Bt) rfl (by simp) (own_cells ((((hown.kept hgrow1 (.inr (by simp [Value.ownBlock]))).alloc _).kept hgrow2 (.inr (by simp [Value.ownBlock]; omega))))) (bt_one _) (by omega) ?_; intro w3 hown3 hgrow3))
      go_ret
      refine ⟨_, j + 1, rfl, .inr ⟨HC.out, rfl⟩, ?_, ?_⟩
      · rw [← HA.out]
        have h3 := hown3
        simp only [Nat.add_comm 1 j] at h3 ⊢
        simpa [Bt] using h3
      · have hb1 := hb.grown hgrow1 (by omega) (by simp)
        have hb2 := (hb1.alloc (by have := hb1.size; omega) (.cells #[.int .u8 49] 5)).grown hgrow2 (by have := hb1.size; simp; omega) (by intro k hk; simp at hk; omega)
        exact hb2.grown hgrow3 (by have := hb2.size; omega) (by intro k hk; simp at hk; omega)
    · obtain ⟨d', rfl⟩ : ∃ d', d = d' + 1 := ⟨d - 1, by omega⟩
      subst hdj
      have hget := incAt_get d' j n
      have hcell : wr.cell? ⟨g, d', none⟩ = some (.int .u8 ((dgt (n / 10 ^ j)).toNat : Int)) := by
        rw [hown.cellAt d' (by omega), List.getElem?_map, hget]; rfl
      have hfro := hown.frozenAt d'
      have hd9 := dgt_nine (n / 10 ^ j)
      have hdn := dgt_toNat (n / 10 ^ j)
      by_cases h9 : (n / 10 ^ j) % 10 = 9
      · have h9I : (((dgt (n / 10 ^ j)).toNat : Int) == 57) = true := by rw [hd9]; simp [h9]
        have hst := hown.stored d' (Bt 48)
        rw [map_set_Bt, incAt_zero] at hst
        have HST : Hid ((wr.setCell ⟨g, d', none⟩ (Bt 48)).ownsRow B 5 1 (.slice (some ⟨g, 0, none⟩) (d' + 1 + j) cap) (d' + 1 + j) ((incAt (d' + 1 + j) n (j + 1)).map Bt)) := hst.1
        have HM : Hid (n % 10 ^ (j + 1) = 10 ^ (j + 1) - 1) := inc_more (d' + 1 + j) n j (by omega) hmod.out h9
        have HB : Hid (Below B w (wr.setCell ⟨g, d', none⟩ (Bt 48))) := hb.setCell hgB _
        clear hst hget hd9 hdn hmod h9 hown hb
        generalize dgt (n / 10 ^ j) = c at *
        go_wp2
        go_roundw
        case rel => exact ⟨j + 1, d', by omega, by go_num, HM, HST.out, HB.out⟩
        case measure => simp [intOf]
      · have h9I : (((dgt (n / 10 ^ j)).toNat : Int) == 57) = false := by rw [hd9]; simp [h9]
        have hst := hown.stored d' (Bt (dgt (n / 10 ^ j) + 1))
        rw [map_set_Bt, incAt_one d' j n hmod.out h9] at hst
        have HST : Hid ((wr.setCell ⟨g, d', none⟩ (Bt (dgt (n / 10 ^ j) + 1))).ownsRow B 5 1 (.slice (some ⟨g, 0, none⟩) (d' + 1 + j) cap) (d' + 1 + j) ((rep (d' + 1 + j) (n + 1)).map Bt)) := hst.1
        have HB : Hid (Below B w (wr.setCell ⟨g, d', none⟩ (Bt (dgt (n / 10 ^ j) + 1)))) := hb.setCell hgB _
        have HL : Hid (n + 1 < 10 ^ (d' + 1 + j)) := by
          show _ < _
          have h1 := HN.out
          false_or_by_contra
          rename_i hge
          have he : n + 1 = 10 ^ (d' + 1 + j) := by omega
          have hn' : n / 10 ^ j = 10 ^ (d' + 1) - 1 := by
            have e2 := inc_num n j hmod.out
            rw [he, Nat.pow_add] at e2
            have := Nat.eq_of_mul_eq_mul_right (pow_pos' j) e2
            omega
          apply h9
          rw [hn', Nat.pow_succ]
          have := pow_pos' d'
          omega
        have HV : Hid (((dgt (n / 10 ^ j)).toNat : Int) + 1 = ((dgt (n / 10 ^ j) + 1).toNat : Int)) := by
          show _ = _
          rw [UInt8.toNat_add, hdn]
          show ((48 + n / 10 ^ j % 10 : Nat) : Int) + 1 = (((48 + n / 10 ^ j % 10 + 1) % 256 : Nat) : Int)
          omega
        have hbd : ((dgt (n / 10 ^ j)).toNat : Int) ≤ 57 := by rw [hdn]; omega
        clear hst hget hd9 hdn hmod h9 hown hb
        go_wp2
        go_ret
        refine ⟨_, d' + 1 + j, rfl, .inl ⟨HL.out, rfl⟩, ?_, ?_⟩
        · first | exact HST.out | (rw [HV.out]; exact HST.out)
        · first | exact HB.out | (rw [HV.out]; exact HB.out)
end Go.Proofs.Qxb6612180aDoor
