/-
  WALKS for seat b6612180aD: zzbFmtModel.
-/
import Derived.Test.Qxb6612180aDoorWalkC
import Derived.Deep.Cut
import Derived.Laws.IdiomStrings
import Derived.Deep.DeepCutAuto
set_option linter.unusedSimpArgs false
namespace Go.Proofs.Qxb6612180aDoor
open Go.RowKit

def lenV : Value → Nat | .slice _ n _ => n | _ => 0

theorem fit_small {m L : Nat} (h : Fit 0 m L) (hm : m < 1000000000000000000) : L ≤ 18 := by
  rcases h.tight with e | e
  · omega
  · have := pow_lt_19 (L - 1) m e hm
    omega

theorem cut_cells {w : World} {B g L cap s p m : Nat} (h : w.ownsRow B 5 1 (.slice (some ⟨g, 0, none⟩) L cap) L ((rep L m).map Bt)) (hL : s ≤ L) (hp : p ≤ s) :
    ∀ j u, ((rep (L - s + p) (m / 10 ^ (s - p))).map Bt)[j]? = some u → w.cell? ((⟨g, 0, none⟩ : Addr).add j) = some u := by
  intro j u hj
  have e := rep_take (L - s + p) (s - p) m
  rw [show L - s + p + (s - p) = L by omega] at e
  have hjl := (List.getElem?_eq_some_iff.1 hj).1
  rw [List.length_map, rep_length] at hjl
  rw [← e, List.map_take, List.getElem?_take, if_pos hjl] at hj
  exact own_cells h j u hj

theorem cut_digit {w : World} {B g L cap s p m : Nat} (h : w.ownsRow B 5 1 (.slice (some ⟨g, 0, none⟩) L cap) L ((rep L m).map Bt)) (hL : s ≤ L) (hp : p < s) :
    w.cell? ⟨g, L - s + p, none⟩ = some (.int .u8 ((dgt (m / 10 ^ (s - p - 1))).toNat : Int)) := by
  have e := rep_get (L - s + p) (s - p - 1) m
  rw [show L - s + p + 1 + (s - p - 1) = L by omega] at e
  rw [h.cellAt (L - s + p) (by omega), List.getElem?_map, e]
  rfl

theorem take_cells {w : World} {B g n cap k e : Nat} {l : List UInt8} (h : w.ownsRow B e 1 (.slice (some ⟨g, 0, none⟩) n cap) n (l.map Bt)) :
    ∀ j u, ((l.take k).map Bt)[j]? = some u → w.cell? ((⟨g, 0, none⟩ : Addr).add j) = some u := by
  intro j u hj
  rw [List.map_take] at hj
  have hjk : j < k := by
    have := (List.getElem?_eq_some_iff.1 hj).1
    rw [List.length_take] at this
    omega
  rw [List.getElem?_take, if_pos hjk] at hj
  exact own_cells h j u hj
theorem drop_cells {w : World} {B g n cap k e : Nat} {l : List UInt8} (h : w.ownsRow B e 1 (.slice (some ⟨g, 0, none⟩) n cap) n (l.map Bt)) :
    ∀ j u, ((l.drop k).map Bt)[j]? = some u → w.cell? ((⟨g, k, none⟩ : Addr).add j) = some u := by
  intro j u hj
  rw [List.map_drop, List.getElem?_drop] at hj
  have := own_cells h (k + j) u hj
  rw [Addr.add_lit] at this ⊢
  rw [← this, Nat.zero_add]

theorem pad_step (L Q t : Nat) : (rep (L + t) (Q * 10 ^ t)).map Bt ++ [.int .u8 48] = (rep (L + (t + 1)) (Q * 10 ^ (t + 1))).map Bt := by
  rw [← rep_zeros, ← rep_zeros, List.replicate_succ', ← List.append_assoc, List.map_append (l₂ := [48])]
  rfl
theorem all_step (l : List UInt8) (t : Nat) (c : UInt8) (h : l[t]? = some c) : (l.take (t + 1)).all (· == 48) = ((l.take t).all (· == 48) && (c == 48)) := by
  rw [take_succ_get l t c h, List.all_append]
  simp
theorem bne48 (c : UInt8) : ((c.toNat : Int) != 48) = !(c == 48) := by
  have e : ((c.toNat : Int) == 48) = (c == 48) := by
    rw [Bool.eq_iff_iff]; simp [← UInt8.toNat_inj]; omega
  show (!((c.toNat : Int) == 48)) = _
  rw [e]
theorem own_conv {w : World} {base g cap n : Nat} {l : List UInt8} (h : w.ownsRow base 5 1 (.slice (some ⟨g, 0, none⟩) n cap) n (l.map Bt)) (hn : l.length = n) :
    (convert 35 9 (.slice (some ⟨g, 0, none⟩) n cap)).run Tryd.prog w = .ok (.string ⟨l.toArray⟩) w := by
  subst hn
  refine run_convert_bytes_back w 35 9 5 ⟨g, 0, none⟩ cap l Tryd.underlying35 Tryd.underlying5 Tryd.underlying9 (fun j hj => ?_)
  have := own_cells h j (Bt l[j]) (by simp [hj])
  rw [this]
  rfl
theorem own_list {w : World} {B e n : Nat} {v : Value} {xs : List Value} (h : w.ownsRow B e 1 v n xs) {l : List UInt8} (hl : xs = l.map Bt) : w.ownsRow B e 1 v n (l.map Bt) := hl ▸ h

set_option maxHeartbeats 6400000 in
set_option maxRecDepth 100000 in
theorem model_lt (c : Int) (s p : Nat) (w : World) (h1 : -1000000000000000000 < c) (h2 : c < 1000000000000000000) (hs : s ≤ 18) (hp : p ≤ 65536) (hps : p < s) :
    Calls Tryd.prog 8 #[.int .i64 c, .int .i64 s, .int .i64 p] w fun e w' => ∃ L, e = .returned (.string ⟨(outStr (decide (c < 0)) p L (Qf c.natAbs s p)).toArray⟩) ∧ Fit p (Qf c.natAbs s p) L ∧ Below w.heap.size w w' := by
  obtain ⟨i0, hi, hz0, hz1, hz2⟩ := info_parts Tryd.info5
  have hm : c.natAbs < 1000000000000000000 := by omega
  go_enter Tryd.func8, Tryd.ntmps8
  go_wp2_with fail
  refine (mag_any c _ h1 h2).mono ?_
  rintro e w' ⟨rfl, rfl⟩
  go_wp2_with fail
  refine (utoa_any c.natAbs _ hm).mono ?_
  rintro e w1 ⟨v0, L0, rfl, hfit0, hown0, hb0⟩
  have hL18 := fit_small hfit0 hm
  obtain ⟨g0, cap0, rfl, hg0, hg0l, hcap0, hcm0⟩ := own_shape hown0 (by have := hfit0.lo; omega)
  have HF0 : Hid (Fit 0 c.natAbs L0) := hfit0
  clear hfit0
  go_wp2_with fail
  go_loopw [7] (fun v wr => ∃ L g cap : Nat, v = .slice (some ⟨g, 0, none⟩) L cap ∧ wr.ownsRow w.heap.size 5 1 (.slice (some ⟨g, 0, none⟩) L cap) L ((rep L c.natAbs).map Bt) ∧ Below w.heap.size w wr ∧ 1 ≤ L ∧ L ≤ 19 ∧ Hid (c.natAbs < 10 ^ L) ∧ Hid (L ≤ s + 1 ∨ 10 ^ (L - 1) ≤ c.natAbs)) (fun v _ => s + 1 - lenV v)
  case atStart =>
    exact ⟨L0, g0, cap0, rfl, hown0, hb0, HF0.out.lo, by omega, HF0.out.lt, HF0.out.tight.imp (fun e => by omega) id⟩
  case round =>
    obtain ⟨L, g, cap, rfl, hown, hb, hL1, hL19, hlt, htight⟩ := hrel
    clear hown0 hb0 HF0 hg0 hg0l hcap0 hcm0
    have hsz := hb.size
    have hgl := hown.lt g rfl
    have hcapL : L ≤ cap := by
      obtain ⟨g', cap', e, _, _, h5, _⟩ := own_shape hown (by omega)
      simp at e
      omega
    by_cases hls : L ≤ s
    · have HC : Hid (48 :: rep L c.natAbs = rep (L + 1) c.natAbs) := rep_cons0 L _ hlt.out
      have HLT : Hid (c.natAbs < 10 ^ (L + 1)) := by
        show _ < _
        have h3 := hlt.out
        rw [Nat.pow_succ]
        omega
      clear hlt htight
      generalize c.natAbs = m at *
      go_wp2_with (first
        | (at_make; refine wpList_make_own _ rfl _ _ 35 rfl w.heap.size 5 i0 (.int .u8 0) 1 Tryd.underlying35 hi hz0 hz1 .i64 .i64 _ (L + 1) rfl rfl (by omega) (by rw [hz2]; omega) (by unfold maxLen; omega) (by omega) ?_; intro w1 hown1 hgrow1)
        | (at_builtin; refine wpList_append_fits _ rfl (.tmp 28) (.tmp 29) 35 rfl w.heap.size 5 i0 1 Tryd.underlying35 hi hz1 wr.heap.size 0 (L + 1) _ rfl (hown1.alloc _) ⟨w1.heap.size, 0, none⟩ 1 1 [.int .u8 48] rfl rfl (cell_new _ _ _) (one_int _ _) (by omega) ?_; intro w2 hown2 hgrow2)
        | (at_builtin; refine wpList_append_fits _ rfl (.tmp 31) (.tmp 32) 35 rfl w.heap.size 5 i0 1 Tryd.underlying35 hi hz1 wr.heap.size 1 (L + 1) _ rfl (by simpa using hown2) ⟨g, 0, none⟩ L cap ((rep L m).map Bt) rfl (by simp [rep_length]) (own_cells ((((hown.kept hgrow1 (.inr (by simp [Value.ownBlock]))).alloc _).kept hgrow2 (.inr (by simp [Value.ownBlock]; omega))))) (bt_one _) (by omega) ?_; intro w3 hown3 hgrow3))
      go_roundw
      case rel =>
        have hb1 := hb.grown hgrow1 (by omega) (by simp)
        have hb2 := (hb1.alloc (by have := hb1.size; omega) (.cells #[.int .u8 48] 5)).grown hgrow2 (by have := hb1.size; simp; omega) (by intro k hk; simp at hk; omega)
        have hb3 := hb2.grown hgrow3 (by have := hb2.size; omega) (by intro k hk; simp at hk; omega)
        refine ⟨L + 1, wr.heap.size, L + 1, by rw [Nat.add_comm 1 L], ?_, hb3, by omega, by omega, HLT, .inl (by omega)⟩
        rw [← HC.out]
        have h3 := hown3
        simp only [Nat.add_comm 1 L] at h3 ⊢
        simpa [Bt] using h3
      case measure => simp [lenV]; omega
    · have HF : Hid (Fit s c.natAbs L) := ⟨by omega, hlt.out, htight.out.imp (fun e => by omega) id⟩
      clear hlt htight
      rename World => WO
      generalize hmm : c.natAbs = m at *
      have HM : Hid (c.natAbs = m) := hmm
      clear hmm
      go_upto_if 65 with (first
        | (at_make; refine wpList_make_own _ rfl _ _ 35 rfl w.heap.size 5 i0 (.int .u8 0) 1 Tryd.underlying35 hi hz0 hz1 .i64 .i64 _ (L + p + 2) rfl rfl (by omega) (by rw [hz2]; omega) (by unfold maxLen; omega) (by omega) ?_; intro w1 hown1 hgrow1; have hown1' := hown.kept hgrow1 (.inr (by simp [Value.ownBlock])))
        | (at_builtin; refine wpList_append_fits _ rfl _ _ 35 rfl w.heap.size 5 i0 1 Tryd.underlying35 hi hz1 WO.heap.size 0 (L + p + 2) _ rfl hown1 ⟨g, 0, none⟩ (L - s + p) cap ((rep (L - s + p) (m / 10 ^ (s - p))).map Bt) rfl (by rw [List.length_map, rep_length, Nat.mul_one]) (cut_cells hown1' (by omega) (by omega)) (bt_one _) (by omega) ?_; intro w2 hown2 hgrow2; have hown2' := hown1'.kept hgrow2 (.inr (by simp [Value.ownBlock]; omega)); have hdig := cut_digit hown2' (by omega) hps))
      go_cut [11] (fun v wx => ∃ L1 g1 cap1 : Nat, v = .slice (some ⟨g1, 0, none⟩) L1 cap1 ∧ wx.ownsRow w.heap.size 5 1 (.slice (some ⟨g1, 0, none⟩) L1 cap1) L1 ((rep L1 (rnd m (s - p))).map Bt) ∧ Below w.heap.size w wx ∧ L1 ≤ 20 ∧ Hid (Fit p (rnd m (s - p)) L1))
      case first =>
        have hb1 := hb.grown hgrow1 hsz (by simp)
        have hb2 := hb1.grown hgrow2 hb1.size (by intro k hk; simp at hk; omega)
        simp only [Nat.zero_add, List.nil_append] at hown2
        have hhalf := half_iff m (s - p - 1)
        rw [show s - p - 1 + 1 = s - p by omega] at hhalf
        have hfc : Fit p (m / 10 ^ (s - p)) (L - s + p) := by
          have h3 := HF.out
          rw [show s = p + (s - p) by omega] at h3
          have := fit_cut h3
          rw [show L - (s - p) = L - s + p by omega] at this
          exact this
        have hdt := dgt_toNat (m / 10 ^ (s - p - 1))
        by_cases h5 : 5 ≤ (m / 10 ^ (s - p - 1)) % 10
        · have hr : rnd m (s - p) = m / 10 ^ (s - p) + 1 := by unfold rnd; rw [if_pos (hhalf.1 h5)]
          have h53 : (53 : Int) ≤ ((dgt (m / 10 ^ (s - p - 1))).toNat : Int) := by omega
          have HFC : Hid (Fit p (m / 10 ^ (s - p)) (L - s + p)) := hfc
          have HR : Hid (rnd m (s - p) = m / 10 ^ (s - p) + 1) := hr
          clear hr hhalf hdt h5 hfc
          go_wp2_with fail
          refine (inc_any (L - s + p) (m / 10 ^ (s - p)) _ _ w.heap.size _ (by omega) HFC.out.lt hb2.size hown2).mono ?_
          rintro e w3 ⟨v', L', rfl, hcase, hown3, hb3⟩
          obtain ⟨g3, cap3, rfl, hg3, hg3l, hcap3, hcm3⟩ := own_shape hown3 (by rcases hcase with ⟨_, e⟩ | ⟨_, e⟩ <;> (have := HFC.out.lo; omega))
          go_wp2
          go_meet
          refine ⟨L', g3, cap3, rfl, by rw [HR.out]; exact hown3, hb2.trans (hb3.mono (Nat.le_refl _)), by rcases hcase with ⟨_, e⟩ | ⟨_, e⟩ <;> omega, ?_⟩
          show Fit _ _ _
          rw [HR.out]
          rcases hcase with ⟨h6, e⟩ | ⟨h6, e⟩
          · rw [e]; exact fit_inc HFC.out h6
          · rw [e]; exact fit_carry HFC.out h6
        · have hr : rnd m (s - p) = m / 10 ^ (s - p) := by unfold rnd; rw [if_neg (fun h => h5 (hhalf.2 h))]; rfl
          have h53 : ¬ (53 : Int) ≤ ((dgt (m / 10 ^ (s - p - 1))).toNat : Int) := by omega
          have HFC : Hid (Fit p (m / 10 ^ (s - p)) (L - s + p)) := hfc
          have HR : Hid (rnd m (s - p) = m / 10 ^ (s - p)) := hr
          clear hr hhalf hdt h5 hfc
          go_wp2
          go_meet
          refine ⟨L - s + p, _, _, rfl, by rw [HR.out]; exact hown2, hb2, by omega, ?_⟩
          show Fit _ _ _
          rw [HR.out]; exact HFC.out
      case rest =>
        obtain ⟨L1, g1, cap1, rfl, hownc, hbc, hL1b, HFc⟩ := hcut
        clear hown1 hgrow1 hown1' hown2 hgrow2 hown2' hdig hown hb hsz hgl HF
        have HQ1 : Hid (rnd m (s - p) * 10 ^ (p - p) = Qf m s p) := by
          show _ = _
          unfold Qf; rw [if_pos hps, Nat.sub_self, Nat.pow_zero, Nat.mul_one]
        generalize rnd m (s - p) = Q1 at *
        have hszc := hbc.size
        go_wp2_with fail
        go_loopw [11, 13] (fun v i wr => ∃ t g cap : Nat, p + t ≤ p ∧ i = .int .i64 (p + t : Nat) ∧ v = .slice (some ⟨g, 0, none⟩) (L1 + t) cap ∧ wr.ownsRow w.heap.size 5 1 (.slice (some ⟨g, 0, none⟩) (L1 + t) cap) (L1 + t) ((rep (L1 + t) (Q1 * 10 ^ t)).map Bt) ∧ Below w.heap.size w wr) (fun _ i _ => p - (intOf i).toNat)
        case atStart =>
          refine ⟨0, g1, cap1, by omega, rfl, rfl, ?_, hbc⟩
          rw [Nat.add_zero, Nat.pow_zero, Nat.mul_one]; exact hownc
        case round =>
          obtain ⟨t, g2, cap2, ht, rfl, rfl, hown2, hb2⟩ := hrel
          clear hownc hbc hszc
          have hsz2 := hb2.size
          by_cases htp : p + t < p
          · exact absurd htp (by omega)
          · have htp' : t = p - p := by omega
            obtain ⟨N, hN⟩ : ∃ N, N = L1 + t := ⟨_, rfl⟩
            obtain ⟨QQ, hQQ⟩ : ∃ QQ, QQ = Q1 * 10 ^ t := ⟨_, rfl⟩
            have HFN : Hid (Fit p QQ N) := by
              show Fit p QQ N
              have := fit_zeros HFc.out t
              rw [show p + t = p by omega] at this
              rw [hQQ, hN]; exact this
            have HQF : Hid (QQ = Qf m s p) := by
              show _ = _
              rw [hQQ, htp']
              exact HQ1.out
            have hNb : N ≤ 200000 := by omega
            have hN1 : p + 1 ≤ N := HFN.out.lo
            have hcapN : N ≤ cap2 := by
              obtain ⟨g', cap', e, _, _, h5, _⟩ := own_shape hown2 (by omega)
              simp at e
              omega
            have hi13 : (p + t : Nat) = p := by omega
            have hintl : (L1 : Int) - (p : Int) = ((N - p : Nat) : Int) := by omega
            rw [← hN, ← hQQ] at hown2
            have HOWN : Hid (wr.ownsRow w.heap.size 5 1 (.slice (some ⟨g2, 0, none⟩) N cap2) N ((rep N QQ).map Bt)) := hown2
            have HINT : Hid ((L1 : Int) - (p : Int) = ((N - p : Nat) : Int)) := hintl
            have HN : Hid (N = L1 + t) := hN
            have HI13 : Hid ((p + t : Nat) = p) := hi13
            clear hintl hN hQQ hi13 hown2 HFc HQ1 htp'
            rename World => W2
            go_wp2_with fail
            rw [← HN.out]
            go_loopw [14, 15] (fun z i wr => ∃ t : Nat, t ≤ N ∧ i = .int .i64 t ∧ z = .bool (((rep N QQ).take t).all (· == 48)) ∧ wr = W2) (fun _ i _ => N - (intOf i).toNat)
            case atStart => exact ⟨0, Nat.zero_le _, rfl, rfl, rfl⟩
            case round =>
              obtain ⟨t3, ht3, rfl, rfl, rfl⟩ := hrel
              by_cases htN : t3 < N
              · obtain ⟨ch, hch⟩ : ∃ ch : UInt8, (rep N QQ)[t3]? = some ch := ⟨_, List.getElem?_eq_getElem (by rw [rep_length]; exact htN)⟩
                have hcell : wr.cell? ⟨g2, t3, none⟩ = some (.int .u8 (ch.toNat : Int)) := by
                  rw [HOWN.out.cellAt t3 (by omega), List.getElem?_map, hch]; rfl
                have HST : Hid (((rep N QQ).take (t3 + 1)).all (· == 48) = (((rep N QQ).take t3).all (· == 48) && (ch == 48))) := all_step _ _ _ hch
                clear hch
                have hb48 := bne48 ch
                cases h48 : (ch == 48) with
                | true =>
                  rw [h48] at hb48
                  rw [h48, Bool.and_true] at HST
                  clear h48
                  go_wp2
                  go_roundw
                  case rel => exact ⟨t3 + 1, by omega, by go_num, by rw [HST.out], by first | trivial | rfl⟩
                  case measure => simp [intOf]; omega
                | false =>
                  rw [h48] at hb48
                  rw [h48, Bool.and_false] at HST
                  clear h48
                  go_wp2
                  go_roundw
                  case rel => exact ⟨t3 + 1, by omega, by go_num, by rw [HST.out], by first | trivial | rfl⟩
                  case measure => simp [intOf]; omega
              · obtain rfl : t3 = N := by omega
                have hz : (((rep t3 QQ).take t3).all (· == 48)) = (QQ == 0) := by
                  rw [List.take_of_length_le (Nat.le_of_eq (rep_length _ _)), Bool.eq_iff_iff, rep_allzero _ _ HFN.out.lt]
                  simp
                rw [hz]
                clear hz
                have hg2l := (HOWN.out.lt g2 rfl)
                have hLK : L1 - p + p = t3 := by have := HN.out; omega
                have HLK : Hid (L1 - p + p = t3) := hLK
                have hLKa : p ≤ L1 := by have := HN.out; omega
                have hLKb : L1 - p ≤ t3 := by omega
                have hLKc : t3 ≤ L1 - p + p := by omega
                have hLKd : L1 - p + p ≤ t3 := by omega
                clear hLK
                by_cases hp0 : p = 0
                · have hpI : ¬ (0 : Int) < (p : Int) := by omega
                  have hp1 : ¬ 0 < p := by omega
                  clear hp0
                  by_cases hc : c < 0
                  · cases hq : (QQ == 0) with
                    | true =>
                      have HSG : Hid ((decide (c < 0) && QQ != 0) = false) := by show _ = _; simp at hq; simp [hq]
                      have HSG2 : Hid ((true && QQ != 0) = false) := by show _ = _; simp at hq; simp [hq]
                      go_wp2_with (first
                        | (at_make; refine wpList_make_own _ rfl _ _ 35 rfl w.heap.size 5 i0 (.int .u8 0) 1 Tryd.underlying35 hi hz0 hz1 .i64 .i64 _ (t3 + 2) rfl rfl (by omega) (by rw [hz2]; omega) (by unfold maxLen; omega) (by omega) ?_; intro w4 hown4 hgrow4; have HOWN4 : Hid (w4.ownsRow w.heap.size 5 1 (.slice (some ⟨g2, 0, none⟩) t3 cap2) t3 ((rep t3 QQ).map Bt)) := HOWN.out.kept hgrow4 (.inr (by simp [Value.ownBlock])))
                        | (at_builtin; refine wpList_append_fits _ rfl (.tmp 105) (.tmp 108) 35 rfl w.heap.size 5 i0 1 Tryd.underlying35 hi hz1 wr.heap.size 0 (t3 + 2) _ rfl hown4 ⟨g2, 0, none⟩ (L1 - p) cap2 (((rep t3 QQ).take (L1 - p)).map Bt) rfl (by rw [List.length_map, List.length_take, rep_length]; omega) (take_cells HOWN4.out) (bt_one _) (by omega) ?_; intro w6 hown6 hgrow6; have HOWN6 : Hid (w6.ownsRow w.heap.size 5 1 (.slice (some ⟨g2, 0, none⟩) t3 cap2) t3 ((rep t3 QQ).map Bt)) := HOWN4.out.kept hgrow6 (.inr (by simp [Value.ownBlock]; omega)); simp only [Nat.zero_add, List.nil_append] at hown6; have HL : Hid _ := (own_list hown6 (l := ((rep t3 QQ).take (L1 - p))) (by simp [Bt])); have hconv := own_conv HL.out (by simp [rep_length]; omega)))
                      go_ret
                      have hb4 := hb2.grown hgrow4 (by omega) (by simp)
                      have hb5 := hb4
                      have hb6 := hb5.grown hgrow6 (by have := hb5.size; omega) (by intro k hk; simp at hk; omega)
                      refine ⟨t3, ?_, by rw [HM.out, ← HQF.out]; exact HFN.out, hb6⟩
                      rw [HM.out, ← HQF.out]
                      refine congrArg (fun l : List UInt8 => Ending.returned (Value.string ⟨l.toArray⟩)) ?_
                      unfold outStr
                      rw [show t3 - p = L1 - p by omega]
                      first | rw [HSG.out] | rw [HSG2.out]
                      simp [hp1]
                    | false =>
                      have HSG : Hid ((decide (c < 0) && QQ != 0) = true) := by show _ = _; simp at hq; simp [hq, hc]
                      have HSG2 : Hid ((true && QQ != 0) = true) := by show _ = _; simp at hq; simp [hq]
                      go_wp2_with (first
                        | (at_make; refine wpList_make_own _ rfl _ _ 35 rfl w.heap.size 5 i0 (.int .u8 0) 1 Tryd.underlying35 hi hz0 hz1 .i64 .i64 _ (t3 + 2) rfl rfl (by omega) (by rw [hz2]; omega) (by unfold maxLen; omega) (by omega) ?_; intro w4 hown4 hgrow4; have HOWN4 : Hid (w4.ownsRow w.heap.size 5 1 (.slice (some ⟨g2, 0, none⟩) t3 cap2) t3 ((rep t3 QQ).map Bt)) := HOWN.out.kept hgrow4 (.inr (by simp [Value.ownBlock])))
                        | (at_builtin; refine wpList_append_fits _ rfl (.tmp 102) (.tmp 103) 35 rfl w.heap.size 5 i0 1 Tryd.underlying35 hi hz1 wr.heap.size 0 (t3 + 2) _ rfl (hown4.alloc _) ⟨w4.heap.size, 0, none⟩ 1 1 [.int .u8 45] rfl rfl (cell_new _ _ _) (one_int _ _) (by omega) ?_; intro w5 hown5 hgrow5; simp only [Nat.zero_add, List.nil_append] at hown5; have HOWN5 : Hid (w5.ownsRow w.heap.size 5 1 (.slice (some ⟨g2, 0, none⟩) t3 cap2) t3 ((rep t3 QQ).map Bt)) := (HOWN4.out.alloc _).kept hgrow5 (.inr (by simp [Value.ownBlock]; omega)))
                        | (at_builtin; refine wpList_append_fits _ rfl (.tmp 105) (.tmp 108) 35 rfl w.heap.size 5 i0 1 Tryd.underlying35 hi hz1 wr.heap.size 1 (t3 + 2) _ rfl hown5 ⟨g2, 0, none⟩ (L1 - p) cap2 (((rep t3 QQ).take (L1 - p)).map Bt) rfl (by rw [List.length_map, List.length_take, rep_length]; omega) (take_cells HOWN5.out) (bt_one _) (by omega) ?_; intro w6 hown6 hgrow6; have HOWN6 : Hid (w6.ownsRow w.heap.size 5 1 (.slice (some ⟨g2, 0, none⟩) t3 cap2) t3 ((rep t3 QQ).map Bt)) := HOWN5.out.kept hgrow6 (.inr (by simp [Value.ownBlock]; omega)); have HL : Hid _ := (own_list hown6 (l := ([45] ++ (rep t3 QQ).take (L1 - p))) (by simp [Bt])); have hconv := own_conv HL.out (by simp [rep_length]; omega)))
                      go_ret
                      have hb4 := hb2.grown hgrow4 (by omega) (by simp)
                      have hb5 := (hb4.alloc (by have := hb4.size; omega) (.cells #[.int .u8 45] 5)).grown hgrow5 (by have := hb4.size; simp; omega) (by intro k hk; simp at hk; omega)
                      have hb6 := hb5.grown hgrow6 (by have := hb5.size; omega) (by intro k hk; simp at hk; omega)
                      refine ⟨t3, ?_, by rw [HM.out, ← HQF.out]; exact HFN.out, hb6⟩
                      rw [HM.out, ← HQF.out]
                      refine congrArg (fun l : List UInt8 => Ending.returned (Value.string ⟨l.toArray⟩)) ?_
                      unfold outStr
                      rw [show t3 - p = L1 - p by omega]
                      first | rw [HSG.out] | rw [HSG2.out]
                      simp [hp1]
                  · have HSG : Hid ((decide (c < 0) && QQ != 0) = false) := by show _ = _; simp [hc]
                    have HSG2 : Hid ((false && QQ != 0) = false) := rfl
                    go_wp2_with (first
                      | (at_make; refine wpList_make_own _ rfl _ _ 35 rfl w.heap.size 5 i0 (.int .u8 0) 1 Tryd.underlying35 hi hz0 hz1 .i64 .i64 _ (t3 + 2) rfl rfl (by omega) (by rw [hz2]; omega) (by unfold maxLen; omega) (by omega) ?_; intro w4 hown4 hgrow4; have HOWN4 : Hid (w4.ownsRow w.heap.size 5 1 (.slice (some ⟨g2, 0, none⟩) t3 cap2) t3 ((rep t3 QQ).map Bt)) := HOWN.out.kept hgrow4 (.inr (by simp [Value.ownBlock])))
                      | (at_builtin; refine wpList_append_fits _ rfl (.tmp 105) (.tmp 108) 35 rfl w.heap.size 5 i0 1 Tryd.underlying35 hi hz1 wr.heap.size 0 (t3 + 2) _ rfl hown4 ⟨g2, 0, none⟩ (L1 - p) cap2 (((rep t3 QQ).take (L1 - p)).map Bt) rfl (by rw [List.length_map, List.length_take, rep_length]; omega) (take_cells HOWN4.out) (bt_one _) (by omega) ?_; intro w6 hown6 hgrow6; have HOWN6 : Hid (w6.ownsRow w.heap.size 5 1 (.slice (some ⟨g2, 0, none⟩) t3 cap2) t3 ((rep t3 QQ).map Bt)) := HOWN4.out.kept hgrow6 (.inr (by simp [Value.ownBlock]; omega)); simp only [Nat.zero_add, List.nil_append] at hown6; have HL : Hid _ := (own_list hown6 (l := ((rep t3 QQ).take (L1 - p))) (by simp [Bt])); have hconv := own_conv HL.out (by simp [rep_length]; omega)))
                    go_ret
                    have hb4 := hb2.grown hgrow4 (by omega) (by simp)
                    have hb5 := hb4
                    have hb6 := hb5.grown hgrow6 (by have := hb5.size; omega) (by intro k hk; simp at hk; omega)
                    refine ⟨t3, ?_, by rw [HM.out, ← HQF.out]; exact HFN.out, hb6⟩
                    rw [HM.out, ← HQF.out]
                    refine congrArg (fun l : List UInt8 => Ending.returned (Value.string ⟨l.toArray⟩)) ?_
                    unfold outStr
                    rw [show t3 - p = L1 - p by omega]
                    first | rw [HSG.out] | rw [HSG2.out]
                    simp [hp1]
                · have hpI : (0 : Int) < (p : Int) := by omega
                  have hp1 : 0 < p := by omega
                  have hcne : ¬ cap2 = L1 - p := by omega
                  by_cases hc : c < 0
                  · cases hq : (QQ == 0) with
                    | true =>
                      have HSG : Hid ((decide (c < 0) && QQ != 0) = false) := by show _ = _; simp at hq; simp [hq]
                      have HSG2 : Hid ((true && QQ != 0) = false) := by show _ = _; simp at hq; simp [hq]
                      go_wp2_with (first
                        | (at_make; refine wpList_make_own _ rfl _ _ 35 rfl w.heap.size 5 i0 (.int .u8 0) 1 Tryd.underlying35 hi hz0 hz1 .i64 .i64 _ (t3 + 2) rfl rfl (by omega) (by rw [hz2]; omega) (by unfold maxLen; omega) (by omega) ?_; intro w4 hown4 hgrow4; have HOWN4 : Hid (w4.ownsRow w.heap.size 5 1 (.slice (some ⟨g2, 0, none⟩) t3 cap2) t3 ((rep t3 QQ).map Bt)) := HOWN.out.kept hgrow4 (.inr (by simp [Value.ownBlock])))
                        | (at_builtin; refine wpList_append_fits _ rfl (.tmp 105) (.tmp 108) 35 rfl w.heap.size 5 i0 1 Tryd.underlying35 hi hz1 wr.heap.size 0 (t3 + 2) _ rfl hown4 ⟨g2, 0, none⟩ (L1 - p) cap2 (((rep t3 QQ).take (L1 - p)).map Bt) rfl (by rw [List.length_map, List.length_take, rep_length]; omega) (take_cells HOWN4.out) (bt_one _) (by omega) ?_; intro w6 hown6 hgrow6; have HOWN6 : Hid (w6.ownsRow w.heap.size 5 1 (.slice (some ⟨g2, 0, none⟩) t3 cap2) t3 ((rep t3 QQ).map Bt)) := HOWN4.out.kept hgrow6 (.inr (by simp [Value.ownBlock]; omega)); simp only [Nat.zero_add, List.nil_append] at hown6)
                        | (at_builtin; refine wpList_append_fits _ rfl (.tmp 112) (.tmp 113) 35 rfl w.heap.size 5 i0 1 Tryd.underlying35 hi hz1 wr.heap.size ((L1 - p)) (t3 + 2) _ rfl (hown6.alloc _) ⟨w6.heap.size, 0, none⟩ 1 1 [.int .u8 46] rfl rfl (cell_new _ _ _) (one_int _ _) (by omega) ?_; intro w7 hown7 hgrow7; have HOWN7 : Hid (w7.ownsRow w.heap.size 5 1 (.slice (some ⟨g2, 0, none⟩) t3 cap2) t3 ((rep t3 QQ).map Bt)) := (HOWN6.out.alloc _).kept hgrow7 (.inr (by simp [Value.ownBlock]; omega)))
                        | (at_builtin; refine wpList_append_fits _ rfl (.tmp 115) (.tmp 118) 35 rfl w.heap.size 5 i0 1 Tryd.underlying35 hi hz1 wr.heap.size ((L1 - p) + 1) (t3 + 2) _ rfl hown7 ⟨g2, L1 - p, none⟩ (t3 - (L1 - p)) (cap2 - (L1 - p)) (((rep t3 QQ).drop (L1 - p)).map Bt) rfl (by rw [List.length_map, List.length_drop, rep_length]; omega) (drop_cells HOWN7.out) (bt_one _) (by omega) ?_; intro w8 hown8 hgrow8; have HL : Hid _ := (own_list hown8 (l := (((rep t3 QQ).take (L1 - p)) ++ 46 :: (rep t3 QQ).drop (L1 - p))) (by simp [Bt])); have hconv := own_conv HL.out (by simp [rep_length]; omega)))
                      go_ret
                      have hb4 := hb2.grown hgrow4 (by omega) (by simp)
                      have hb5 := hb4
                      have hb6 := hb5.grown hgrow6 (by have := hb5.size; omega) (by intro k hk; simp at hk; omega)
                      have hb7 := (hb6.alloc (by have := hb6.size; omega) (.cells #[.int .u8 46] 5)).grown hgrow7 (by have := hb6.size; simp; omega) (by intro k hk; simp at hk; omega)
                      have hb8 := hb7.grown hgrow8 (by have := hb7.size; omega) (by intro k hk; simp at hk; omega)
                      refine ⟨t3, ?_, by rw [HM.out, ← HQF.out]; exact HFN.out, hb8⟩
                      rw [HM.out, ← HQF.out]
                      refine congrArg (fun l : List UInt8 => Ending.returned (Value.string ⟨l.toArray⟩)) ?_
                      unfold outStr
                      rw [show t3 - p = L1 - p by omega]
                      first | rw [HSG.out] | rw [HSG2.out]
                      simp [hp1]
                    | false =>
                      have HSG : Hid ((decide (c < 0) && QQ != 0) = true) := by show _ = _; simp at hq; simp [hq, hc]
                      have HSG2 : Hid ((true && QQ != 0) = true) := by show _ = _; simp at hq; simp [hq]
                      go_wp2_with (first
                        | (at_make; refine wpList_make_own _ rfl _ _ 35 rfl w.heap.size 5 i0 (.int .u8 0) 1 Tryd.underlying35 hi hz0 hz1 .i64 .i64 _ (t3 + 2) rfl rfl (by omega) (by rw [hz2]; omega) (by unfold maxLen; omega) (by omega) ?_; intro w4 hown4 hgrow4; have HOWN4 : Hid (w4.ownsRow w.heap.size 5 1 (.slice (some ⟨g2, 0, none⟩) t3 cap2) t3 ((rep t3 QQ).map Bt)) := HOWN.out.kept hgrow4 (.inr (by simp [Value.ownBlock])))
                        | (at_builtin; refine wpList_append_fits _ rfl (.tmp 102) (.tmp 103) 35 rfl w.heap.size 5 i0 1 Tryd.underlying35 hi hz1 wr.heap.size 0 (t3 + 2) _ rfl (hown4.alloc _) ⟨w4.heap.size, 0, none⟩ 1 1 [.int .u8 45] rfl rfl (cell_new _ _ _) (one_int _ _) (by omega) ?_; intro w5 hown5 hgrow5; simp only [Nat.zero_add, List.nil_append] at hown5; have HOWN5 : Hid (w5.ownsRow w.heap.size 5 1 (.slice (some ⟨g2, 0, none⟩) t3 cap2) t3 ((rep t3 QQ).map Bt)) := (HOWN4.out.alloc _).kept hgrow5 (.inr (by simp [Value.ownBlock]; omega)))
                        | (at_builtin; refine wpList_append_fits _ rfl (.tmp 105) (.tmp 108) 35 rfl w.heap.size 5 i0 1 Tryd.underlying35 hi hz1 wr.heap.size 1 (t3 + 2) _ rfl hown5 ⟨g2, 0, none⟩ (L1 - p) cap2 (((rep t3 QQ).take (L1 - p)).map Bt) rfl (by rw [List.length_map, List.length_take, rep_length]; omega) (take_cells HOWN5.out) (bt_one _) (by omega) ?_; intro w6 hown6 hgrow6; have HOWN6 : Hid (w6.ownsRow w.heap.size 5 1 (.slice (some ⟨g2, 0, none⟩) t3 cap2) t3 ((rep t3 QQ).map Bt)) := HOWN5.out.kept hgrow6 (.inr (by simp [Value.ownBlock]; omega)))
                        | (at_builtin; refine wpList_append_fits _ rfl (.tmp 112) (.tmp 113) 35 rfl w.heap.size 5 i0 1 Tryd.underlying35 hi hz1 wr.heap.size (1 + (L1 - p)) (t3 + 2) _ rfl (hown6.alloc _) ⟨w6.heap.size, 0, none⟩ 1 1 [.int .u8 46] rfl rfl (cell_new _ _ _) (one_int _ _) (by omega) ?_; intro w7 hown7 hgrow7; have HOWN7 : Hid (w7.ownsRow w.heap.size 5 1 (.slice (some ⟨g2, 0, none⟩) t3 cap2) t3 ((rep t3 QQ).map Bt)) := (HOWN6.out.alloc _).kept hgrow7 (.inr (by simp [Value.ownBlock]; omega)))
                        | (at_builtin; refine wpList_append_fits _ rfl (.tmp 115) (.tmp 118) 35 rfl w.heap.size 5 i0 1 Tryd.underlying35 hi hz1 wr.heap.size (1 + (L1 - p) + 1) (t3 + 2) _ rfl hown7 ⟨g2, L1 - p, none⟩ (t3 - (L1 - p)) (cap2 - (L1 - p)) (((rep t3 QQ).drop (L1 - p)).map Bt) rfl (by rw [List.length_map, List.length_drop, rep_length]; omega) (drop_cells HOWN7.out) (bt_one _) (by omega) ?_; intro w8 hown8 hgrow8; have HL : Hid _ := (own_list hown8 (l := (([45] ++ (rep t3 QQ).take (L1 - p)) ++ 46 :: (rep t3 QQ).drop (L1 - p))) (by simp [Bt])); have hconv := own_conv HL.out (by simp [rep_length]; omega)))
                      go_ret
                      have hb4 := hb2.grown hgrow4 (by omega) (by simp)
                      have hb5 := (hb4.alloc (by have := hb4.size; omega) (.cells #[.int .u8 45] 5)).grown hgrow5 (by have := hb4.size; simp; omega) (by intro k hk; simp at hk; omega)
                      have hb6 := hb5.grown hgrow6 (by have := hb5.size; omega) (by intro k hk; simp at hk; omega)
                      have hb7 := (hb6.alloc (by have := hb6.size; omega) (.cells #[.int .u8 46] 5)).grown hgrow7 (by have := hb6.size; simp; omega) (by intro k hk; simp at hk; omega)
                      have hb8 := hb7.grown hgrow8 (by have := hb7.size; omega) (by intro k hk; simp at hk; omega)
                      refine ⟨t3, ?_, by rw [HM.out, ← HQF.out]; exact HFN.out, hb8⟩
                      rw [HM.out, ← HQF.out]
                      refine congrArg (fun l : List UInt8 => Ending.returned (Value.string ⟨l.toArray⟩)) ?_
                      unfold outStr
                      rw [show t3 - p = L1 - p by omega]
                      first | rw [HSG.out] | rw [HSG2.out]
                      simp [hp1]
                  · have HSG : Hid ((decide (c < 0) && QQ != 0) = false) := by show _ = _; simp [hc]
                    have HSG2 : Hid ((false && QQ != 0) = false) := rfl
                    go_wp2_with (first
                      | (at_make; refine wpList_make_own _ rfl _ _ 35 rfl w.heap.size 5 i0 (.int .u8 0) 1 Tryd.underlying35 hi hz0 hz1 .i64 .i64 _ (t3 + 2) rfl rfl (by omega) (by rw [hz2]; omega) (by unfold maxLen; omega) (by omega) ?_; intro w4 hown4 hgrow4; have HOWN4 : Hid (w4.ownsRow w.heap.size 5 1 (.slice (some ⟨g2, 0, none⟩) t3 cap2) t3 ((rep t3 QQ).map Bt)) := HOWN.out.kept hgrow4 (.inr (by simp [Value.ownBlock])))
                      | (at_builtin; refine wpList_append_fits _ rfl (.tmp 105) (.tmp 108) 35 rfl w.heap.size 5 i0 1 Tryd.underlying35 hi hz1 wr.heap.size 0 (t3 + 2) _ rfl hown4 ⟨g2, 0, none⟩ (L1 - p) cap2 (((rep t3 QQ).take (L1 - p)).map Bt) rfl (by rw [List.length_map, List.length_take, rep_length]; omega) (take_cells HOWN4.out) (bt_one _) (by omega) ?_; intro w6 hown6 hgrow6; have HOWN6 : Hid (w6.ownsRow w.heap.size 5 1 (.slice (some ⟨g2, 0, none⟩) t3 cap2) t3 ((rep t3 QQ).map Bt)) := HOWN4.out.kept hgrow6 (.inr (by simp [Value.ownBlock]; omega)); simp only [Nat.zero_add, List.nil_append] at hown6)
                      | (at_builtin; refine wpList_append_fits _ rfl (.tmp 112) (.tmp 113) 35 rfl w.heap.size 5 i0 1 Tryd.underlying35 hi hz1 wr.heap.size ((L1 - p)) (t3 + 2) _ rfl (hown6.alloc _) ⟨w6.heap.size, 0, none⟩ 1 1 [.int .u8 46] rfl rfl (cell_new _ _ _) (one_int _ _) (by omega) ?_; intro w7 hown7 hgrow7; have HOWN7 : Hid (w7.ownsRow w.heap.size 5 1 (.slice (some ⟨g2, 0, none⟩) t3 cap2) t3 ((rep t3 QQ).map Bt)) := (HOWN6.out.alloc _).kept hgrow7 (.inr (by simp [Value.ownBlock]; omega)))
                      | (at_builtin; refine wpList_append_fits _ rfl (.tmp 115) (.tmp 118) 35 rfl w.heap.size 5 i0 1 Tryd.underlying35 hi hz1 wr.heap.size ((L1 - p) + 1) (t3 + 2) _ rfl hown7 ⟨g2, L1 - p, none⟩ (t3 - (L1 - p)) (cap2 - (L1 - p)) (((rep t3 QQ).drop (L1 - p)).map Bt) rfl (by rw [List.length_map, List.length_drop, rep_length]; omega) (drop_cells HOWN7.out) (bt_one _) (by omega) ?_; intro w8 hown8 hgrow8; have HL : Hid _ := (own_list hown8 (l := (((rep t3 QQ).take (L1 - p)) ++ 46 :: (rep t3 QQ).drop (L1 - p))) (by simp [Bt])); have hconv := own_conv HL.out (by simp [rep_length]; omega)))
                    go_ret
                    have hb4 := hb2.grown hgrow4 (by omega) (by simp)
                    have hb5 := hb4
                    have hb6 := hb5.grown hgrow6 (by have := hb5.size; omega) (by intro k hk; simp at hk; omega)
                    have hb7 := (hb6.alloc (by have := hb6.size; omega) (.cells #[.int .u8 46] 5)).grown hgrow7 (by have := hb6.size; simp; omega) (by intro k hk; simp at hk; omega)
                    have hb8 := hb7.grown hgrow8 (by have := hb7.size; omega) (by intro k hk; simp at hk; omega)
                    refine ⟨t3, ?_, by rw [HM.out, ← HQF.out]; exact HFN.out, hb8⟩
                    rw [HM.out, ← HQF.out]
                    refine congrArg (fun l : List UInt8 => Ending.returned (Value.string ⟨l.toArray⟩)) ?_
                    unfold outStr
                    rw [show t3 - p = L1 - p by omega]
                    first | rw [HSG.out] | rw [HSG2.out]
                    simp [hp1]
end Go.Proofs.Qxb6612180aDoor
