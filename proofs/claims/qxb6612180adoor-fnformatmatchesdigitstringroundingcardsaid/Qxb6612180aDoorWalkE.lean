/-
  WALKS for seat b6612180aD: zzbFmtModel where nothing is cut.
-/
import Derived.Test.Qxb6612180aDoorWalkD
set_option linter.unusedSimpArgs false
namespace Go.Proofs.Qxb6612180aDoor
open Go.RowKit

set_option maxHeartbeats 6400000 in
set_option maxRecDepth 100000 in
theorem model_ge (c : Int) (s p : Nat) (w : World) (h1 : -1000000000000000000 < c) (h2 : c < 1000000000000000000) (hs : s ≤ 18) (hp : p ≤ 65536) (hps : s ≤ p) :
    Calls Tryd.prog 8 #[.int .i64 c, .int .i64 s, .int .i64 p] w fun e w' => ∃ L, e = .returned (.string ⟨(outStr (decide (c < 0)) p L (Qf c.natAbs s p)).toArray⟩) ∧ Fit p (Qf c.natAbs s p) L ∧ Below w.heap.size w w' := by
  obtain ⟨i0, hi, hz0, hz1, hz2⟩ := info_parts Tryd.info5
  have hm : c.natAbs < 1000000000000000000 := by omega
  go_enter Tryd.func8, Tryd.ntmps8
  go_wp2_with fail
  refine (mag_any c _ h1 h2).mono ?_
  rintro e w' ⟨rfl, rfl⟩
  go_wp2_with fail
  refine (utoa_any c.natAbs _ hm).mono ?_
  rintro e w1 ⟨v0, L0, rfl, hfit0, hown0, hb0⟩
  have hL18 := fit_small hfit0 hm
  obtain ⟨g0, cap0, rfl, hg0, hg0l, hcap0, hcm0⟩ := own_shape hown0 (by have := hfit0.lo; omega)
  have HF0 : Hid (Fit 0 c.natAbs L0) := hfit0
  clear hfit0
  go_wp2_with fail
  go_loopw [7] (fun v wr => ∃ L g cap : Nat, v = .slice (some ⟨g, 0, none⟩) L cap ∧ wr.ownsRow w.heap.size 5 1 (.slice (some ⟨g, 0, none⟩) L cap) L ((rep L c.natAbs).map Bt) ∧ Below w.heap.size w wr ∧ 1 ≤ L ∧ L ≤ 19 ∧ Hid (c.natAbs < 10 ^ L) ∧ Hid (L ≤ s + 1 ∨ 10 ^ (L - 1) ≤ c.natAbs)) (fun v _ => s + 1 - lenV v)
  case atStart =>
    exact ⟨L0, g0, cap0, rfl, hown0, hb0, HF0.out.lo, by omega, HF0.out.lt, HF0.out.tight.imp (fun e => by omega) id⟩
  case round =>
    obtain ⟨L, g, cap, rfl, hown, hb, hL1, hL19, hlt, htight⟩ := hrel
    clear hown0 hb0 HF0 hg0 hg0l hcap0 hcm0
    have hsz := hb.size
    have hgl := hown.lt g rfl
    have hcapL : L ≤ cap := by
      obtain ⟨g', cap', e, _, _, h5, _⟩ := own_shape hown (by omega)
      simp at e
      omega
    by_cases hls : L ≤ s
    · have HC : Hid (48 :: rep L c.natAbs = rep (L + 1) c.natAbs) := rep_cons0 L _ hlt.out
      have HLT : Hid (c.natAbs < 10 ^ (L + 1)) := by
        show _ < _
        have h3 := hlt.out
        rw [Nat.pow_succ]
        omega
      clear hlt htight
      generalize c.natAbs = m at *
      go_wp2_with (first
        | (at_make; refine wpList_make_own _ rfl _ _ 35 rfl w.heap.size 5 i0 (.int .u8 0) 1 Tryd.underlying35 hi hz0 hz1 .i64 .i64 _ (L + 1) rfl rfl (by omega) (by rw [hz2]; omega) (by unfold maxLen; omega) (by omega) ?_; intro w1 hown1 hgrow1)
        | (at_builtin; refine wpList_append_fits _ rfl (.tmp 28) (.tmp 29) 35 rfl w.heap.size 5 i0 1 Tryd.underlying35 hi hz1 wr.heap.size 0 (L + 1) _ rfl (hown1.alloc _) ⟨w1.heap.size, 0, none⟩ 1 1 [.int .u8 48] rfl rfl (cell_new _ _ _) (one_int _ _) (by omega) ?_; intro w2 hown2 hgrow2)
        | (at_builtin; refine wpList_append_fits _ rfl (.tmp 31) (.tmp 32) 35 rfl w.heap.size 5 i0 1 Tryd.underlying35 hi hz1 wr.heap.size 1 (L + 1) _ rfl (by simpa using hown2) ⟨g, 0, none⟩ L cap ((rep L m).map Bt) rfl (by simp [rep_length]) (own_cells ((((hown.kept hgrow1 (.inr (by simp [Value.ownBlock]))).alloc _).kept hgrow2 (.inr (by simp [Value.ownBlock]; omega))))) (bt_one _) (by omega) ?_; intro w3 hown3 hgrow3))
      go_roundw
      case rel =>
        have hb1 := hb.grown hgrow1 (by omega) (by simp)
        have hb2 := (hb1.alloc (by have := hb1.size; omega) (.cells #[.int .u8 48] 5)).grown hgrow2 (by have := hb1.size; simp; omega) (by intro k hk; simp at hk; omega)
        have hb3 := hb2.grown hgrow3 (by have := hb2.size; omega) (by intro k hk; simp at hk; omega)
        refine ⟨L + 1, wr.heap.size, L + 1, by rw [Nat.add_comm 1 L], ?_, hb3, by omega, by omega, HLT, .inl (by omega)⟩
        rw [← HC.out]
        have h3 := hown3
        simp only [Nat.add_comm 1 L] at h3 ⊢
        simpa [Bt] using h3
      case measure => simp [lenV]; omega
    · have HF : Hid (Fit s c.natAbs L) := ⟨by omega, hlt.out, htight.out.imp (fun e => by omega) id⟩
      clear hlt htight
      rename World => WO
      generalize hmm : c.natAbs = m at *
      have HM : Hid (c.natAbs = m) := hmm
      clear hmm
      have hnl : ¬ (p : Int) < (s : Int) := by omega
      go_upto_if 65 with (first
        | (at_make; refine wpList_make_own _ rfl _ _ 35 rfl w.heap.size 5 i0 (.int .u8 0) 1 Tryd.underlying35 hi hz0 hz1 .i64 .i64 _ (L + p + 2) rfl rfl (by omega) (by rw [hz2]; omega) (by unfold maxLen; omega) (by omega) ?_; intro w1 hown1 hgrow1; have hown1' := hown.kept hgrow1 (.inr (by simp [Value.ownBlock])))
        | (at_builtin; refine wpList_append_fits _ rfl _ _ 35 rfl w.heap.size 5 i0 1 Tryd.underlying35 hi hz1 WO.heap.size 0 (L + p + 2) _ rfl hown1 ⟨g, 0, none⟩ L cap ((rep L m).map Bt) rfl (by rw [List.length_map, rep_length, Nat.mul_one]) (own_cells hown1') (bt_one _) (by omega) ?_; intro w2 hown2 hgrow2))
      go_cut [11] (fun v wx => ∃ L1 g1 cap1 : Nat, v = .slice (some ⟨g1, 0, none⟩) L1 cap1 ∧ wx.ownsRow w.heap.size 5 1 (.slice (some ⟨g1, 0, none⟩) L1 cap1) L1 ((rep L1 m).map Bt) ∧ Below w.heap.size w wx ∧ L1 ≤ 20 ∧ Hid (Fit s m L1))
      case first =>
        have hb1 := hb.grown hgrow1 hsz (by simp)
        have hb2 := hb1.grown hgrow2 hb1.size (by intro k hk; simp at hk; omega)
        simp only [Nat.zero_add, List.nil_append] at hown2
        go_wp2
        go_meet
        exact ⟨L, _, _, rfl, hown2, hb2, by omega, HF⟩
      case rest =>
        obtain ⟨L1, g1, cap1, rfl, hownc, hbc, hL1b, HFc⟩ := hcut
        clear hown1 hgrow1 hown1' hown2 hgrow2 hown hb hsz hgl HF
        have HQ1 : Hid (m * 10 ^ (p - s) = Qf m s p) := by
          show _ = _
          unfold Qf; rw [if_neg (by omega)]
        obtain ⟨Q1, hQ1⟩ : ∃ Q1, Q1 = m := ⟨_, rfl⟩
        rw [← hQ1] at hownc HFc
        rw [show m * 10 ^ (p - s) = Q1 * 10 ^ (p - s) by rw [hQ1]] at HQ1
        clear hQ1
        have hszc := hbc.size
        go_wp2_with fail
        go_loopw [11, 13] (fun v i wr => ∃ t g cap : Nat, s + t ≤ p ∧ i = .int .i64 (s + t : Nat) ∧ v = .slice (some ⟨g, 0, none⟩) (L1 + t) cap ∧ wr.ownsRow w.heap.size 5 1 (.slice (some ⟨g, 0, none⟩) (L1 + t) cap) (L1 + t) ((rep (L1 + t) (Q1 * 10 ^ t)).map Bt) ∧ Below w.heap.size w wr) (fun _ i _ => p - (intOf i).toNat)
        case atStart =>
          refine ⟨0, g1, cap1, by omega, rfl, rfl, ?_, hbc⟩
          rw [Nat.add_zero, Nat.pow_zero, Nat.mul_one]; exact hownc
        case round =>
          obtain ⟨t, g2, cap2, ht, rfl, rfl, hown2, hb2⟩ := hrel
          clear hownc hbc hszc
          have hsz2 := hb2.size
          by_cases htp : s + t < p
          · go_wp2_with (first
              | (at_builtin; refine wpList_append_own _ rfl _ _ 35 rfl w.heap.size 5 i0 (.int .u8 0) 1 1 Tryd.underlying35 hi hz0 hz1 hz2 rfl (by decide) _ _ _ rfl (hown2.alloc _) ⟨wr.heap.size, 0, none⟩ 1 1 [.int .u8 48] rfl rfl (cell_new _ _ _) (one_int _ _) (by unfold maxLen; omega) (by omega) (by simp; omega) ?_; intro v3 w3 hown3 hgrow3 _))
            obtain ⟨g3, cap3, rfl, hg3, hg3l, hcap3, hcm3⟩ := own_shape hown3 (by omega)
            go_roundw
            case rel =>
              refine ⟨t + 1, g3, cap3, by omega, by go_num, rfl, by rw [← pad_step]; exact hown3, (hb2.alloc hb2.size _).grown hgrow3 (by simp; omega) (fun k hk => (hown2.lt k hk).1)⟩
            case measure => simp [intOf]; omega
          · have htp' : t = p - s := by omega
            obtain ⟨N, hN⟩ : ∃ N, N = L1 + t := ⟨_, rfl⟩
            obtain ⟨QQ, hQQ⟩ : ∃ QQ, QQ = Q1 * 10 ^ t := ⟨_, rfl⟩
            have HFN : Hid (Fit p QQ N) := by
              show Fit p QQ N
              have := fit_zeros HFc.out t
              rw [show s + t = p by omega] at this
              rw [hQQ, hN]; exact this
            have HQF : Hid (QQ = Qf m s p) := by
              show _ = _
              rw [hQQ, htp']
              exact HQ1.out
            have hNb : N ≤ 200000 := by omega
            have hN1 : p + 1 ≤ N := HFN.out.lo
            have hcapN : N ≤ cap2 := by
              obtain ⟨g', cap', e, _, _, h5, _⟩ := own_shape hown2 (by omega)
              simp at e
              omega
            have hi13 : (s + t : Nat) = p := by omega
            have hintl : (L1 : Int) - (s : Int) = ((N - p : Nat) : Int) := by omega
            rw [← hN, ← hQQ] at hown2
            have HOWN : Hid (wr.ownsRow w.heap.size 5 1 (.slice (some ⟨g2, 0, none⟩) N cap2) N ((rep N QQ).map Bt)) := hown2
            have HINT : Hid ((L1 : Int) - (s : Int) = ((N - p : Nat) : Int)) := hintl
            have HN : Hid (N = L1 + t) := hN
            have HI13 : Hid ((s + t : Nat) = p) := hi13
            clear hintl hN hQQ hi13 hown2 HFc HQ1 htp'
            rename World => W2
            go_wp2_with fail
            rw [← HN.out]
            go_loopw [14, 15] (fun z i wr => ∃ t : Nat, t ≤ N ∧ i = .int .i64 t ∧ z = .bool (((rep N QQ).take t).all (· == 48)) ∧ wr = W2) (fun _ i _ => N - (intOf i).toNat)
            case atStart => exact ⟨0, Nat.zero_le _, rfl, rfl, rfl⟩
            case round =>
              obtain ⟨t3, ht3, rfl, rfl, rfl⟩ := hrel
              by_cases htN : t3 < N
              · obtain ⟨ch, hch⟩ : ∃ ch : UInt8, (rep N QQ)[t3]? = some ch := ⟨_, List.getElem?_eq_getElem (by rw [rep_length]; exact htN)⟩
                have hcell : wr.cell? ⟨g2, t3, none⟩ = some (.int .u8 (ch.toNat : Int)) := by
                  rw [HOWN.out.cellAt t3 (by omega), List.getElem?_map, hch]; rfl
                have HST : Hid (((rep N QQ).take (t3 + 1)).all (· == 48) = (((rep N QQ).take t3).all (· == 48) && (ch == 48))) := all_step _ _ _ hch
                clear hch
                have hb48 := bne48 ch
                cases h48 : (ch == 48) with
                | true =>
                  rw [h48] at hb48
                  rw [h48, Bool.and_true] at HST
                  clear h48
                  go_wp2
                  go_roundw
                  case rel => exact ⟨t3 + 1, by omega, by go_num, by rw [HST.out], by first | trivial | rfl⟩
                  case measure => simp [intOf]; omega
                | false =>
                  rw [h48] at hb48
                  rw [h48, Bool.and_false] at HST
                  clear h48
                  go_wp2
                  go_roundw
                  case rel => exact ⟨t3 + 1, by omega, by go_num, by rw [HST.out], by first | trivial | rfl⟩
                  case measure => simp [intOf]; omega
              · obtain rfl : t3 = N := by omega
                have hz : (((rep t3 QQ).take t3).all (· == 48)) = (QQ == 0) := by
                  rw [List.take_of_length_le (Nat.le_of_eq (rep_length _ _)), Bool.eq_iff_iff, rep_allzero _ _ HFN.out.lt]
                  simp
                rw [hz]
                clear hz
                have hg2l := (HOWN.out.lt g2 rfl)
                have hLK : L1 - s + p = t3 := by have := HN.out; omega
                have HLK : Hid (L1 - s + p = t3) := hLK
                have hLKa : s ≤ L1 := by have := HN.out; omega
                have hLKb : L1 - s ≤ t3 := by omega
                have hLKc : t3 ≤ L1 - s + p := by omega
                have hLKd : L1 - s + p ≤ t3 := by omega
                clear hLK
                by_cases hp0 : p = 0
                · have hpI : ¬ (0 : Int) < (p : Int) := by omega
                  have hp1 : ¬ 0 < p := by omega
                  clear hp0
                  by_cases hc : c < 0
                  · cases hq : (QQ == 0) with
                    | true =>
                      have HSG : Hid ((decide (c < 0) && QQ != 0) = false) := by show _ = _; simp at hq; simp [hq]
                      have HSG2 : Hid ((true && QQ != 0) = false) := by show _ = _; simp at hq; simp [hq]
                      go_wp2_with (first
                        | (at_make; refine wpList_make_own _ rfl _ _ 35 rfl w.heap.size 5 i0 (.int .u8 0) 1 Tryd.underlying35 hi hz0 hz1 .i64 .i64 _ (t3 + 2) rfl rfl (by omega) (by rw [hz2]; omega) (by unfold maxLen; omega) (by omega) ?_; intro w4 hown4 hgrow4; have HOWN4 : Hid (w4.ownsRow w.heap.size 5 1 (.slice (some ⟨g2, 0, none⟩) t3 cap2) t3 ((rep t3 QQ).map Bt)) := HOWN.out.kept hgrow4 (.inr (by simp [Value.ownBlock])))
                        | (at_builtin; refine wpList_append_fits _ rfl (.tmp 105) (.tmp 108) 35 rfl w.heap.size 5 i0 1 Tryd.underlying35 hi hz1 wr.heap.size 0 (t3 + 2) _ rfl hown4 ⟨g2, 0, none⟩ (L1 - s) cap2 (((rep t3 QQ).take (L1 - s)).map Bt) rfl (by rw [List.length_map, List.length_take, rep_length]; omega) (take_cells HOWN4.out) (bt_one _) (by omega) ?_; intro w6 hown6 hgrow6; have HOWN6 : Hid (w6.ownsRow w.heap.size 5 1 (.slice (some ⟨g2, 0, none⟩) t3 cap2) t3 ((rep t3 QQ).map Bt)) := HOWN4.out.kept hgrow6 (.inr (by simp [Value.ownBlock]; omega)); simp only [Nat.zero_add, List.nil_append] at hown6; have HL : Hid _ := (own_list hown6 (l := ((rep t3 QQ).take (L1 - s))) (by simp [Bt])); have hconv := own_conv HL.out (by simp [rep_length]; omega)))
                      go_ret
                      have hb4 := hb2.grown hgrow4 (by omega) (by simp)
                      have hb5 := hb4
                      have hb6 := hb5.grown hgrow6 (by have := hb5.size; omega) (by intro k hk; simp at hk; omega)
                      refine ⟨t3, ?_, by rw [HM.out, ← HQF.out]; exact HFN.out, hb6⟩
                      rw [HM.out, ← HQF.out]
                      refine congrArg (fun l : List UInt8 => Ending.returned (Value.string ⟨l.toArray⟩)) ?_
                      unfold outStr
                      rw [show t3 - p = L1 - s by omega]
                      first | rw [HSG.out] | rw [HSG2.out]
                      simp [hp1]
                    | false =>
                      have HSG : Hid ((decide (c < 0) && QQ != 0) = true) := by show _ = _; simp at hq; simp [hq, hc]
                      have HSG2 : Hid ((true && QQ != 0) = true) := by show _ = _; simp at hq; simp [hq]
                      go_wp2_with (first
                        | (at_make; refine wpList_make_own _ rfl _ _ 35 rfl w.heap.size 5 i0 (.int .u8 0) 1 Tryd.underlying35 hi hz0 hz1 .i64 .i64 _ (t3 + 2) rfl rfl (by omega) (by rw [hz2]; omega) (by unfold maxLen; omega) (by omega) ?_; intro w4 hown4 hgrow4; have HOWN4 : Hid (w4.ownsRow w.heap.size 5 1 (.slice (some ⟨g2, 0, none⟩) t3 cap2) t3 ((rep t3 QQ).map Bt)) := HOWN.out.kept hgrow4 (.inr (by simp [Value.ownBlock])))
                        | (at_builtin; refine wpList_append_fits _ rfl (.tmp 102) (.tmp 103) 35 rfl w.heap.size 5 i0 1 Tryd.underlying35 hi hz1 wr.heap.size 0 (t3 + 2) _ rfl (hown4.alloc _) ⟨w4.heap.size, 0, none⟩ 1 1 [.int .u8 45] rfl rfl (cell_new _ _ _) (one_int _ _) (by omega) ?_; intro w5 hown5 hgrow5; simp only [Nat.zero_add, List.nil_append] at hown5; have HOWN5 : Hid (w5.ownsRow w.heap.size 5 1 (.slice (some ⟨g2, 0, none⟩) t3 cap2) t3 ((rep t3 QQ).map Bt)) := (HOWN4.out.alloc _).kept hgrow5 (.inr (by simp [Value.ownBlock]; omega)))
                        | (at_builtin; refine wpList_append_fits _ rfl (.tmp 105) (.tmp 108) 35 rfl w.heap.size 5 i0 1 Tryd.underlying35 hi hz1 wr.heap.size 1 (t3 + 2) _ rfl hown5 ⟨g2, 0, none⟩ (L1 - s) cap2 (((rep t3 QQ).take (L1 - s)).map Bt) rfl (by rw [List.length_map, List.length_take, rep_length]; omega) (take_cells HOWN5.out) (bt_one _) (by omega) ?_; intro w6 hown6 hgrow6; have HOWN6 : Hid (w6.ownsRow w.heap.size 5 1 (.slice (some ⟨g2, 0, none⟩) t3 cap2) t3 ((rep t3 QQ).map Bt)) := HOWN5.out.kept hgrow6 (.inr (by simp [Value.ownBlock]; omega)); have HL : Hid _ := (own_list hown6 (l := ([45] ++ (rep t3 QQ).take (L1 - s))) (by simp [Bt])); have hconv := own_conv HL.out (by simp [rep_length]; omega)))
                      go_ret
                      have hb4 := hb2.grown hgrow4 (by omega) (by simp)
                      have hb5 := (hb4.alloc (by have := hb4.size; omega) (.cells #[.int .u8 45] 5)).grown hgrow5 (by have := hb4.size; simp; omega) (by intro k hk; simp at hk; omega)
                      have hb6 := hb5.grown hgrow6 (by have := hb5.size; omega) (by intro k hk; simp at hk; omega)
                      refine ⟨t3, ?_, by rw [HM.out, ← HQF.out]; exact HFN.out, hb6⟩
                      rw [HM.out, ← HQF.out]
                      refine congrArg (fun l : List UInt8 => Ending.returned (Value.string ⟨l.toArray⟩)) ?_
                      unfold outStr
                      rw [show t3 - p = L1 - s by omega]
                      first | rw [HSG.out] | rw [HSG2.out]
                      simp [hp1]
                  · have HSG : Hid ((decide (c < 0) && QQ != 0) = false) := by show _ = _; simp [hc]
                    have HSG2 : Hid ((false && QQ != 0) = false) := rfl
                    go_wp2_with (first
                      | (at_make; refine wpList_make_own _ rfl _ _ 35 rfl w.heap.size 5 i0 (.int .u8 0) 1 Tryd.underlying35 hi hz0 hz1 .i64 .i64 _ (t3 + 2) rfl rfl (by omega) (by rw [hz2]; omega) (by unfold maxLen; omega) (by omega) ?_; intro w4 hown4 hgrow4; have HOWN4 : Hid (w4.ownsRow w.heap.size 5 1 (.slice (some ⟨g2, 0, none⟩) t3 cap2) t3 ((rep t3 QQ).map Bt)) := HOWN.out.kept hgrow4 (.inr (by simp [Value.ownBlock])))
                      | (at_builtin; refine wpList_append_fits _ rfl (.tmp 105) (.tmp 108) 35 rfl w.heap.size 5 i0 1 Tryd.underlying35 hi hz1 wr.heap.size 0 (t3 + 2) _ rfl hown4 ⟨g2, 0, none⟩ (L1 - s) cap2 (((rep t3 QQ).take (L1 - s)).map Bt) rfl (by rw [List.length_map, List.length_take, rep_length]; omega) (take_cells HOWN4.out) (bt_one _) (by omega) ?_; intro w6 hown6 hgrow6; have HOWN6 : Hid (w6.ownsRow w.heap.size 5 1 (.slice (some ⟨g2, 0, none⟩) t3 cap2) t3 ((rep t3 QQ).map Bt)) := HOWN4.out.kept hgrow6 (.inr (by simp [Value.ownBlock]; omega)); simp only [Nat.zero_add, List.nil_append] at hown6; have HL : Hid _ := (own_list hown6 (l := ((rep t3 QQ).take (L1 - s))) (by simp [Bt])); have hconv := own_conv HL.out (by simp [rep_length]; omega)))
                    go_ret
                    have hb4 := hb2.grown hgrow4 (by omega) (by simp)
                    have hb5 := hb4
                    have hb6 := hb5.grown hgrow6 (by have := hb5.size; omega) (by intro k hk; simp at hk; omega)
                    refine ⟨t3, ?_, by rw [HM.out, ← HQF.out]; exact HFN.out, hb6⟩
                    rw [HM.out, ← HQF.out]
                    refine congrArg (fun l : List UInt8 => Ending.returned (Value.string ⟨l.toArray⟩)) ?_
                    unfold outStr
                    rw [show t3 - p = L1 - s by omega]
                    first | rw [HSG.out] | rw [HSG2.out]
                    simp [hp1]
                · have hpI : (0 : Int) < (p : Int) := by omega
                  have hp1 : 0 < p := by omega
                  have hcne : ¬ cap2 = L1 - s := by omega
                  by_cases hc : c < 0
                  · cases hq : (QQ == 0) with
                    | true =>
                      have HSG : Hid ((decide (c < 0) && QQ != 0) = false) := by show _ = _; simp at hq; simp [hq]
                      have HSG2 : Hid ((true && QQ != 0) = false) := by show _ = _; simp at hq; simp [hq]
                      go_wp2_with (first
                        | (at_make; refine wpList_make_own _ rfl _ _ 35 rfl w.heap.size 5 i0 (.int .u8 0) 1 Tryd.underlying35 hi hz0 hz1 .i64 .i64 _ (t3 + 2) rfl rfl (by omega) (by rw [hz2]; omega) (by unfold maxLen; omega) (by omega) ?_; intro w4 hown4 hgrow4; have HOWN4 : Hid (w4.ownsRow w.heap.size 5 1 (.slice (some ⟨g2, 0, none⟩) t3 cap2) t3 ((rep t3 QQ).map Bt)) := HOWN.out.kept hgrow4 (.inr (by simp [Value.ownBlock])))
                        | (at_builtin; refine wpList_append_fits _ rfl (.tmp 105) (.tmp 108) 35 rfl w.heap.size 5 i0 1 Tryd.underlying35 hi hz1 wr.heap.size 0 (t3 + 2) _ rfl hown4 ⟨g2, 0, none⟩ (L1 - s) cap2 (((rep t3 QQ).take (L1 - s)).map Bt) rfl (by rw [List.length_map, List.length_take, rep_length]; omega) (take_cells HOWN4.out) (bt_one _) (by omega) ?_; intro w6 hown6 hgrow6; have HOWN6 : Hid (w6.ownsRow w.heap.size 5 1 (.slice (some ⟨g2, 0, none⟩) t3 cap2) t3 ((rep t3 QQ).map Bt)) := HOWN4.out.kept hgrow6 (.inr (by simp [Value.ownBlock]; omega)); simp only [Nat.zero_add, List.nil_append] at hown6)
                        | (at_builtin; refine wpList_append_fits _ rfl (.tmp 112) (.tmp 113) 35 rfl w.heap.size 5 i0 1 Tryd.underlying35 hi hz1 wr.heap.size ((L1 - s)) (t3 + 2) _ rfl (hown6.alloc _) ⟨w6.heap.size, 0, none⟩ 1 1 [.int .u8 46] rfl rfl (cell_new _ _ _) (one_int _ _) (by omega) ?_; intro w7 hown7 hgrow7; have HOWN7 : Hid (w7.ownsRow w.heap.size 5 1 (.slice (some ⟨g2, 0, none⟩) t3 cap2) t3 ((rep t3 QQ).map Bt)) := (HOWN6.out.alloc _).kept hgrow7 (.inr (by simp [Value.ownBlock]; omega)))
                        | (at_builtin; refine wpList_append_fits _ rfl (.tmp 115) (.tmp 118) 35 rfl w.heap.size 5 i0 1 Tryd.underlying35 hi hz1 wr.heap.size ((L1 - s) + 1) (t3 + 2) _ rfl hown7 ⟨g2, L1 - s, none⟩ (t3 - (L1 - s)) (cap2 - (L1 - s)) (((rep t3 QQ).drop (L1 - s)).map Bt) rfl (by rw [List.length_map, List.length_drop, rep_length]; omega) (drop_cells HOWN7.out) (bt_one _) (by omega) ?_; intro w8 hown8 hgrow8; have HL : Hid _ := (own_list hown8 (l := (((rep t3 QQ).take (L1 - s)) ++ 46 :: (rep t3 QQ).drop (L1 - s))) (by simp [Bt])); have hconv := own_conv HL.out (by simp [rep_length]; omega)))
                      go_ret
                      have hb4 := hb2.grown hgrow4 (by omega) (by simp)
                      have hb5 := hb4
                      have hb6 := hb5.grown hgrow6 (by have := hb5.size; omega) (by intro k hk; simp at hk; omega)
                      have hb7 := (hb6.alloc (by have := hb6.size; omega) (.cells #[.int .u8 46] 5)).grown hgrow7 (by have := hb6.size; simp; omega) (by intro k hk; simp at hk; omega)
                      have hb8 := hb7.grown hgrow8 (by have := hb7.size; omega) (by intro k hk; simp at hk; omega)
                      refine ⟨t3, ?_, by rw [HM.out, ← HQF.out]; exact HFN.out, hb8⟩
                      rw [HM.out, ← HQF.out]
                      refine congrArg (fun l : List UInt8 => Ending.returned (Value.string ⟨l.toArray⟩)) ?_
                      unfold outStr
                      rw [show t3 - p = L1 - s by omega]
                      first | rw [HSG.out] | rw [HSG2.out]
                      simp [hp1]
                    | false =>
                      have HSG : Hid ((decide (c < 0) && QQ != 0) = true) := by show _ = _; simp at hq; simp [hq, hc]
                      have HSG2 : Hid ((true && QQ != 0) = true) := by show _ = _; simp at hq; simp [hq]
                      go_wp2_with (first
                        | (at_make; refine wpList_make_own _ rfl _ _ 35 rfl w.heap.size 5 i0 (.int .u8 0) 1 Tryd.underlying35 hi hz0 hz1 .i64 .i64 _ (t3 + 2) rfl rfl (by omega) (by rw [hz2]; omega) (by unfold maxLen; omega) (by omega) ?_; intro w4 hown4 hgrow4; have HOWN4 : Hid (w4.ownsRow w.heap.size 5 1 (.slice (some ⟨g2, 0, none⟩) t3 cap2) t3 ((rep t3 QQ).map Bt)) := HOWN.out.kept hgrow4 (.inr (by simp [Value.ownBlock])))
                        | (at_builtin; refine wpList_append_fits _ rfl (.tmp 102) (.tmp 103) 35 rfl w.heap.size 5 i0 1 Tryd.underlying35 hi hz1 wr.heap.size 0 (t3 + 2) _ rfl (hown4.alloc _) ⟨w4.heap.size, 0, none⟩ 1 1 [.int .u8 45] rfl rfl (cell_new _ _ _) (one_int _ _) (by omega) ?_; intro w5 hown5 hgrow5; simp only [Nat.zero_add, List.nil_append] at hown5; have HOWN5 : Hid (w5.ownsRow w.heap.size 5 1 (.slice (some ⟨g2, 0, none⟩) t3 cap2) t3 ((rep t3 QQ).map Bt)) := (HOWN4.out.alloc _).kept hgrow5 (.inr (by simp [Value.ownBlock]; omega)))
                        | (at_builtin; refine wpList_append_fits _ rfl (.tmp 105) (.tmp 108) 35 rfl w.heap.size 5 i0 1 Tryd.underlying35 hi hz1 wr.heap.size 1 (t3 + 2) _ rfl hown5 ⟨g2, 0, none⟩ (L1 - s) cap2 (((rep t3 QQ).take (L1 - s)).map Bt) rfl (by rw [List.length_map, List.length_take, rep_length]; omega) (take_cells HOWN5.out) (bt_one _) (by omega) ?_; intro w6 hown6 hgrow6; have HOWN6 : Hid (w6.ownsRow w.heap.size 5 1 (.slice (some ⟨g2, 0, none⟩) t3 cap2) t3 ((rep t3 QQ).map Bt)) := HOWN5.out.kept hgrow6 (.inr (by simp [Value.ownBlock]; omega)))
                        | (at_builtin; refine wpList_append_fits _ rfl (.tmp 112) (.tmp 113) 35 rfl w.heap.size 5 i0 1 Tryd.underlying35 hi hz1 wr.heap.size (1 + (L1 - s)) (t3 + 2) _ rfl (hown6.alloc _) ⟨w6.heap.size, 0, none⟩ 1 1 [.int .u8 46] rfl rfl (cell_new _ _ _) (one_int _ _) (by omega) ?_; intro w7 hown7 hgrow7; have HOWN7 : Hid (w7.ownsRow w.heap.size 5 1 (.slice (some ⟨g2, 0, none⟩) t3 cap2) t3 ((rep t3 QQ).map Bt)) := (HOWN6.out.alloc _).kept hgrow7 (.inr (by simp [Value.ownBlock]; omega)))
                        | (at_builtin; refine wpList_append_fits _ rfl (.tmp 115) (.tmp 118) 35 rfl w.heap.size 5 i0 1 Tryd.underlying35 hi hz1 wr.heap.size (1 + (L1 - s) + 1) (t3 + 2) _ rfl hown7 ⟨g2, L1 - s, none⟩ (t3 - (L1 - s)) (cap2 - (L1 - s)) (((rep t3 QQ).drop (L1 - s)).map Bt) rfl (by rw [List.length_map, List.length_drop, rep_length]; omega) (drop_cells HOWN7.out) (bt_one _) (by omega) ?_; intro w8 hown8 hgrow8; have HL : Hid _ := (own_list hown8 (l := (([45] ++ (rep t3 QQ).take (L1 - s)) ++ 46 :: (rep t3 QQ).drop (L1 - s))) (by simp [Bt])); have hconv := own_conv HL.out (by simp [rep_length]; omega)))
                      go_ret
                      have hb4 := hb2.grown hgrow4 (by omega) (by simp)
                      have hb5 := (hb4.alloc (by have := hb4.size; omega) (.cells #[.int .u8 45] 5)).grown hgrow5 (by have := hb4.size; simp; omega) (by intro k hk; simp at hk; omega)
                      have hb6 := hb5.grown hgrow6 (by have := hb5.size; omega) (by intro k hk; simp at hk; omega)
                      have hb7 := (hb6.alloc (by have := hb6.size; omega) (.cells #[.int .u8 46] 5)).grown hgrow7 (by have := hb6.size; simp; omega) (by intro k hk; simp at hk; omega)
                      have hb8 := hb7.grown hgrow8 (by have := hb7.size; omega) (by intro k hk; simp at hk; omega)
                      refine ⟨t3, ?_, by rw [HM.out, ← HQF.out]; exact HFN.out, hb8⟩
                      rw [HM.out, ← HQF.out]
                      refine congrArg (fun l : List UInt8 => Ending.returned (Value.string ⟨l.toArray⟩)) ?_
                      unfold outStr
                      rw [show t3 - p = L1 - s by omega]
                      first | rw [HSG.out] | rw [HSG2.out]
                      simp [hp1]
                  · have HSG : Hid ((decide (c < 0) && QQ != 0) = false) := by show _ = _; simp [hc]
                    have HSG2 : Hid ((false && QQ != 0) = false) := rfl
                    go_wp2_with (first
                      | (at_make; refine wpList_make_own _ rfl _ _ 35 rfl w.heap.size 5 i0 (.int .u8 0) 1 Tryd.underlying35 hi hz0 hz1 .i64 .i64 _ (t3 + 2) rfl rfl (by omega) (by rw [hz2]; omega) (by unfold maxLen; omega) (by omega) ?_; intro w4 hown4 hgrow4; have HOWN4 : Hid (w4.ownsRow w.heap.size 5 1 (.slice (some ⟨g2, 0, none⟩) t3 cap2) t3 ((rep t3 QQ).map Bt)) := HOWN.out.kept hgrow4 (.inr (by simp [Value.ownBlock])))
                      | (at_builtin; refine wpList_append_fits _ rfl (.tmp 105) (.tmp 108) 35 rfl w.heap.size 5 i0 1 Tryd.underlying35 hi hz1 wr.heap.size 0 (t3 + 2) _ rfl hown4 ⟨g2, 0, none⟩ (L1 - s) cap2 (((rep t3 QQ).take (L1 - s)).map Bt) rfl (by rw [List.length_map, List.length_take, rep_length]; omega) (take_cells HOWN4.out) (bt_one _) (by omega) ?_; intro w6 hown6 hgrow6; have HOWN6 : Hid (w6.ownsRow w.heap.size 5 1 (.slice (some ⟨g2, 0, none⟩) t3 cap2) t3 ((rep t3 QQ).map Bt)) := HOWN4.out.kept hgrow6 (.inr (by simp [Value.ownBlock]; omega)); simp only [Nat.zero_add, List.nil_append] at hown6)
                      | (at_builtin; refine wpList_append_fits _ rfl (.tmp 112) (.tmp 113) 35 rfl w.heap.size 5 i0 1 Tryd.underlying35 hi hz1 wr.heap.size ((L1 - s)) (t3 + 2) _ rfl (hown6.alloc _) ⟨w6.heap.size, 0, none⟩ 1 1 [.int .u8 46] rfl rfl (cell_new _ _ _) (one_int _ _) (by omega) ?_; intro w7 hown7 hgrow7; have HOWN7 : Hid (w7.ownsRow w.heap.size 5 1 (.slice (some ⟨g2, 0, none⟩) t3 cap2) t3 ((rep t3 QQ).map Bt)) := (HOWN6.out.alloc _).kept hgrow7 (.inr (by simp [Value.ownBlock]; omega)))
                      | (at_builtin; refine wpList_append_fits _ rfl (.tmp 115) (.tmp 118) 35 rfl w.heap.size 5 i0 1 Tryd.underlying35 hi hz1 wr.heap.size ((L1 - s) + 1) (t3 + 2) _ rfl hown7 ⟨g2, L1 - s, none⟩ (t3 - (L1 - s)) (cap2 - (L1 - s)) (((rep t3 QQ).drop (L1 - s)).map Bt) rfl (by rw [List.length_map, List.length_drop, rep_length]; omega) (drop_cells HOWN7.out) (bt_one _) (by omega) ?_; intro w8 hown8 hgrow8; have HL : Hid _ := (own_list hown8 (l := (((rep t3 QQ).take (L1 - s)) ++ 46 :: (rep t3 QQ).drop (L1 - s))) (by simp [Bt])); have hconv := own_conv HL.out (by simp [rep_length]; omega)))
                    go_ret
                    have hb4 := hb2.grown hgrow4 (by omega) (by simp)
                    have hb5 := hb4
                    have hb6 := hb5.grown hgrow6 (by have := hb5.size; omega) (by intro k hk; simp at hk; omega)
                    have hb7 := (hb6.alloc (by have := hb6.size; omega) (.cells #[.int .u8 46] 5)).grown hgrow7 (by have := hb6.size; simp; omega) (by intro k hk; simp at hk; omega)
                    have hb8 := hb7.grown hgrow8 (by have := hb7.size; omega) (by intro k hk; simp at hk; omega)
                    refine ⟨t3, ?_, by rw [HM.out, ← HQF.out]; exact HFN.out, hb8⟩
                    rw [HM.out, ← HQF.out]
                    refine congrArg (fun l : List UInt8 => Ending.returned (Value.string ⟨l.toArray⟩)) ?_
                    unfold outStr
                    rw [show t3 - p = L1 - s by omega]
                    first | rw [HSG.out] | rw [HSG2.out]
                    simp [hp1]
end Go.Proofs.Qxb6612180aDoor
