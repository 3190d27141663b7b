/-
  WALKS for seat b6612180aD: (Decimal).text.
-/
import Derived.Test.Qxb6612180aDoorWalkF
import Derived.Test.Qxb6612180aDoorWalkH
import Derived.Test.Qxb6612180aDoorWalkD
set_option linter.unusedVariables false
set_option linter.unusedSimpArgs false
namespace Go.Proofs.Qxb6612180aDoor
open Go.RowKit

theorem own_conv_lab {w : World} {base e g cap n : Nat} {l : List UInt8} (h : w.ownsRow base e 1 (.slice (some ⟨g, 0, none⟩) n cap) n (l.map Bt)) (hn : l.length = n) :
    (convert 35 9 (.slice (some ⟨g, 0, none⟩) n cap)).run Tryd.prog w = .ok (.string ⟨l.toArray⟩) w := by
  subst hn
  refine run_convert_bytes_back w 35 9 5 ⟨g, 0, none⟩ cap l Tryd.underlying35 Tryd.underlying5 Tryd.underlying9 (fun j hj => ?_)
  have := own_cells h j (Bt l[j]) (by simp [hj])
  rw [this]
  rfl
theorem Tryd.u64g : Tryd.prog.globalNamed "internal/strconv.uint64pow10" = some 1 := by kernel_rfl
theorem grown_cell {w w' : World} {g b o : Nat} {v : Value} (hg : w.grownBy w' (some g)) (h : w.cell? ⟨b, o, none⟩ = some v) (hne : b ≠ g) : w'.cell? ⟨b, o, none⟩ = some v :=
  hg.cell h (by simpa using hne)

def z39 : Array Value := #[.int .u8 0, .int .u8 0, .int .u8 0, .int .u8 0, .int .u8 0, .int .u8 0, .int .u8 0, .int .u8 0, .int .u8 0, .int .u8 0, .int .u8 0, .int .u8 0, .int .u8 0, .int .u8 0, .int .u8 0, .int .u8 0, .int .u8 0, .int .u8 0, .int .u8 0, .int .u8 0, .int .u8 0, .int .u8 0, .int .u8 0, .int .u8 0, .int .u8 0, .int .u8 0, .int .u8 0, .int .u8 0, .int .u8 0, .int .u8 0, .int .u8 0, .int .u8 0, .int .u8 0, .int .u8 0, .int .u8 0, .int .u8 0, .int .u8 0, .int .u8 0, .int .u8 0]
theorem z39_own (w : World) (B : Nat) (hB : B ≤ w.heap.size) : (w.alloc (.cells z39 40)).ownsRow B 40 1 (.slice (some ⟨w.heap.size, 0, none⟩) 0 39) 0 [] :=
  ⟨rfl, .inr ⟨w.heap.size, 39, z39, rfl, hB, heap_alloc_new w _, by decide, by unfold maxLen; decide, rfl, rfl⟩⟩
/-- What stands behind the sign and the digits: a zero ahead. -/
theorem ins_zero (sg : List UInt8) (L m : Nat) (h : m < 10 ^ L) : (((sg ++ rep L m).map Bt).take sg.length ++ Bt 48 :: ((sg ++ rep L m).map Bt).drop sg.length) = (sg ++ rep (L + 1) m).map Bt := by
  rw [← rep_cons0 L m h, ← List.map_take, ← List.map_drop]
  simp
theorem ins_point (sg : List UInt8) (L m s : Nat) (h : s ≤ L) : (((sg ++ rep L m).map Bt).take (sg.length + L - s) ++ Bt 46 :: ((sg ++ rep L m).map Bt).drop (sg.length + L - s)) = (sg ++ (rep L m).take (L - s) ++ 46 :: (rep L m).drop (L - s)).map Bt := by
  rw [← List.map_take, ← List.map_drop, show sg.length + L - s = sg.length + (L - s) by omega, List.take_append, List.drop_append, List.take_of_length_le (by omega), List.drop_eq_nil_of_le (by omega)]
  simp

def textS (c : Int) (s p L : Nat) : List UInt8 := (if c < 0 then [45] else []) ++ (rep L c.natAbs).take (L - s) ++ (if 0 < p then 46 :: ((rep L c.natAbs).drop (L - s) ++ List.replicate (p - s) 48) else [])

set_option maxHeartbeats 6400000 in
set_option maxRecDepth 100000 in
theorem text_any (c : Int) (s p : Nat) (w : World) (h1 : -1000000000000000000 < c) (h2 : c < 1000000000000000000) (hs : s ≤ 18) (hsp : s ≤ p) (hp : p ≤ 65536)
    (htab : Lib.TabIs Tryd.prog w "internal/strconv.uint64pow10" .u64 Lib.pow10Tab) :
    Calls Tryd.prog 15 #[.agg #[.int .i64 c, .int .i64 s], .int .i64 p] w fun e w' => ∃ L, Fit s c.natAbs L ∧
      e = .returned (.string ⟨(textS c s p L).toArray⟩) ∧ Below w.heap.size w w' := by
  obtain ⟨i0, hi, hz0, hz1, hz2⟩ := info_parts Tryd.info5
  have hm : c.natAbs < 1000000000000000000 := by omega
  go_enter Tryd.func15, Tryd.ntmps15
  go_upto_if 11 with fail
  go_cut [6] (fun v wx => ∃ (sg : List UInt8) (n0 : Nat), Hid (sg = if c < 0 then [45] else []) ∧ Hid (sg.length = n0) ∧ n0 ≤ 1 ∧ v = .slice (some ⟨w.heap.size + 1, 0, none⟩) n0 39 ∧ wx.ownsRow (w.heap.size + 1) 40 1 (.slice (some ⟨w.heap.size + 1, 0, none⟩) n0 39) n0 (sg.map Bt) ∧
      wx.cell? ⟨w.heap.size, 0, none⟩ = some (.int .i64 c) ∧ wx.cell? ⟨w.heap.size, 1, none⟩ = some (.int .i64 s) ∧ Below w.heap.size w wx ∧ w.heap.size + 2 ≤ wx.heap.size)
  case first =>
    have hz := z39_own (w.alloc (.cells #[.int .i64 c, .int .i64 s] 24)) (w.heap.size + 1) (by simp)
    have hc0 : ((w.alloc (.cells #[.int .i64 c, .int .i64 s] 24)).alloc (.cells z39 40)).cell? ⟨w.heap.size, 0, none⟩ = some (.int .i64 c) := by simp [go_sem, World.cell?_alloc_past]
    have hc1 : ((w.alloc (.cells #[.int .i64 c, .int .i64 s] 24)).alloc (.cells z39 40)).cell? ⟨w.heap.size, 1, none⟩ = some (.int .i64 s) := by simp [go_sem, World.cell?_alloc_past]
    have hb0 : Below w.heap.size w ((w.alloc (.cells #[.int .i64 c, .int .i64 s] 24)).alloc (.cells z39 40)) := ((Below.refl _ _).alloc (Nat.le_refl _) _).alloc (by simp) _
    have hsz0 : w.heap.size + 2 ≤ ((w.alloc (.cells #[.int .i64 c, .int .i64 s] 24)).alloc (.cells z39 40)).heap.size := by simp
    change Code.wp Tryd.prog _ _ _ ((w.alloc (.cells #[.int .i64 c, .int .i64 s] 24)).alloc (.cells z39 40))
    have e1 : (w.alloc (.cells #[.int .i64 c, .int .i64 s] 24)).heap.size = w.heap.size + 1 := by simp
    rw [e1] at hz
    generalize (w.alloc (.cells #[.int .i64 c, .int .i64 s] 24)).alloc (.cells z39 40) = W0 at *
    by_cases hc : c < 0
    · go_wp2_with (at_builtin; refine wpList_append_fits_lab _ rfl _ _ 35 rfl (w.heap.size + 1) 5 40 i0 Tryd.underlying35 hi hz1 (w.heap.size + 1) 0 39 _ rfl (hz.alloc _) ⟨W0.heap.size, 0, none⟩ 1 1 [.int .u8 45] rfl rfl (cell_new _ _ _) (one_int _ _) (by omega) ?_; intro w1 hown1 hgrow1)
      go_meet
      have hgs := hgrow1.size
      have hb1 := (hb0.alloc hb0.size (.cells #[.int .u8 45] 5)).grown hgrow1 (by simp; omega) (by intro k hk; simp at hk; omega)
      refine ⟨[45], 1, by show _ = _; rw [if_pos hc], rfl, by omega, rfl, hown1, grown_cell hgrow1 (bcell ((Below.refl _ _).alloc (Nat.le_refl _) _) hc0) (by omega), grown_cell hgrow1 (bcell ((Below.refl _ _).alloc (Nat.le_refl _) _) hc1) (by omega), hb1, ?_⟩
      simp at hgs
      omega
    · go_wp2
      go_meet
      exact ⟨[], 0, by show _ = _; rw [if_neg (by omega)], rfl, by omega, rfl, hz, hc0, hc1, hb0, hsz0⟩
  case rest =>
    obtain ⟨sg, n0, HSG, HN0, hn0, rfl, hown, hc0, hc1, hb, hsz⟩ := hcut
    have htab1 := Go.Joins.tab_stays Tryd.u64g htab hb (Nat.le_refl _)
    have HFD : Hid (Lib.decDigits c.natAbs = rep (Lib.nDigits c.natAbs) c.natAbs ∧ Fit 0 c.natAbs (Lib.nDigits c.natAbs)) := decDigits_rep c.natAbs
    have hnd18 : Lib.nDigits c.natAbs ≤ 18 := fit_small HFD.out.2 hm
    have hnd1 : 1 ≤ Lib.nDigits c.natAbs := HFD.out.2.lo
    clear htab
    generalize hmm : c.natAbs = m at *
    have HM : Hid (c.natAbs = m) := hmm
    go_wp2_with (first
      | (go_at_call 18; refine (magnitude_any _ _ h1 h2).mono ?_; rintro e w' ⟨rfl, rfl⟩; rw [HM.out]))
    clear hmm
    refine (au_any (w.heap.size + 1) 40 (w.heap.size + 1) n0 39 m (by omega) (sg.map Bt) _ hown (by omega) htab1).mono ?_
    rintro e w1 ⟨rfl, hown1, hgrow1⟩
    have hc0' := grown_cell hgrow1 hc0 (by omega)
    have hc1' := grown_cell hgrow1 hc1 (by omega)
    have hb1 : Below w.heap.size w w1 := hb.grown hgrow1 (by omega) (by intro k hk; simp at hk; omega)
    have hs1 : w.heap.size + 2 ≤ w1.heap.size := Nat.le_trans hsz hgrow1.size
    rw [HFD.out.1, ← List.map_append] at hown1
    have HF0 : Hid (Fit 0 m (Lib.nDigits m)) := HFD.out.2
    generalize Lib.nDigits m = L0 at *
    clear hown hc0 hc1 hb hsz hgrow1 htab1 HFD
    go_wp2_with fail
    go_loopw [6] (fun v wr => ∃ L : Nat, v = .slice (some ⟨w.heap.size + 1, 0, none⟩) (n0 + L) 39 ∧ wr.ownsRow (w.heap.size + 1) 40 1 (.slice (some ⟨w.heap.size + 1, 0, none⟩) (n0 + L) 39) (n0 + L) ((sg ++ rep L m).map Bt) ∧
        wr.cell? ⟨w.heap.size, 0, none⟩ = some (.int .i64 c) ∧ wr.cell? ⟨w.heap.size, 1, none⟩ = some (.int .i64 s) ∧ Below w.heap.size w wr ∧ w.heap.size + 2 ≤ wr.heap.size ∧ 1 ≤ L ∧ L ≤ 19 ∧ Hid (m < 10 ^ L) ∧ Hid (L ≤ s + 1 ∨ 10 ^ (L - 1) ≤ m)) (fun v _ => n0 + s + 1 - lenV v)
    case atStart => exact ⟨L0, rfl, hown1, hc0', hc1', hb1, hs1, hnd1, by omega, HF0.out.lt, HF0.out.tight.imp (fun e => by omega) id⟩
    case round =>
      obtain ⟨L, rfl, hown, hc0, hc1, hb, hsz, hL1, hL19, hlt, htight⟩ := hrel
      clear hown1 hc0' hc1' hb1 hs1 HF0
      by_cases hls : L ≤ s
      · have HI : Hid _ := ins_zero sg L m hlt.out
        have HLT : Hid (m < 10 ^ (L + 1)) := by
          show _ < _
          have h3 := hlt.out
          rw [Nat.pow_succ]
          omega
        clear hlt htight
        go_wp2_with fail
        refine (insert_shift (w.heap.size + 1) 40 (w.heap.size + 1) (n0 + L) 39 n0 wr.heap.size (.int .u8 48) ((sg ++ rep L m).map Bt) _ (by omega) (by omega) (hown.alloc _) (bt_one _) rfl (heap_alloc_new wr _) (by omega)).mono ?_
        rintro e w2 ⟨rfl, hown2, hgrow2⟩
        have hown3 : w2.ownsRow (w.heap.size + 1) 40 1 (.slice (some ⟨w.heap.size + 1, 0, none⟩) (n0 + L + 1) 39) (n0 + L + 1) ((sg ++ rep (L + 1) m).map Bt) := by
          have e := HI.out
          rw [HN0.out] at e
          rw [← e]; exact hown2
        have hc0' := grown_cell hgrow2 (bcell ((Below.refl _ _).alloc (Nat.le_refl _) _) hc0) (by omega)
        have hc1' := grown_cell hgrow2 (bcell ((Below.refl _ _).alloc (Nat.le_refl _) _) hc1) (by omega)
        have hb2 : Below w.heap.size w w2 := (hb.alloc hb.size _).grown hgrow2 (by simp; omega) (by intro k hk; simp at hk; omega)
        have hs2 : w.heap.size + 2 ≤ w2.heap.size := by have := hgrow2.size; simp at this; omega
        clear hown hown2 hgrow2 hc0 hc1 hb hsz
        go_wp2
        go_roundw
        case rel => exact ⟨L + 1, rfl, hown3, hc0', hc1', hb2, hs2, by omega, by omega, HLT, .inl (by omega)⟩
        case measure => simp [lenV]; omega
      · have HF : Hid (Fit s m L) := ⟨by omega, hlt.out, htight.out.imp (fun e => by omega) id⟩
        clear hlt htight
        by_cases hp0 : p = 0
        · have hs0 : s = 0 := by omega
          have hpI : ¬ (0 : Int) < (p : Int) := by omega
          have HP : Hid (p = 0) := hp0
          have HS0 : Hid (s = 0) := hs0
          clear hp0 hs0
          have hconv := own_conv_lab hown (by rw [List.length_append, rep_length, HN0.out])
          go_wp2
          go_ret
          refine ⟨L, by rw [HM.out]; exact HF.out, ?_, hb⟩
          refine congrArg (fun l : List UInt8 => Ending.returned (Value.string ⟨l.toArray⟩)) ?_
          unfold textS
          rw [HM.out, HSG.out, HP.out, HS0.out]
          simp [List.take_of_length_le (Nat.le_of_eq (rep_length L m))]
        · have hpI : (0 : Int) < (p : Int) := by omega
          have HP0 : Hid (0 < p) := by show _ < _; omega
          obtain ⟨X, hX⟩ : ∃ X, X = sg ++ (rep L m).take (L - s) ++ 46 :: (rep L m).drop (L - s) := ⟨_, rfl⟩
          have HX : Hid (X = sg ++ (rep L m).take (L - s) ++ 46 :: (rep L m).drop (L - s)) := hX
          have HXL : Hid (X.length = n0 + L + 1) := by
            show _ = _
            rw [hX, List.length_append, List.length_append, List.length_take, List.length_cons, List.length_drop, rep_length, HN0.out]
            omega
          clear hX hp0
          by_cases hs0 : s = 0
          · have HS0 : Hid (s = 0) := hs0
            clear hs0
            go_wp2_with fail
            rw [show ((n0 : Int) + (L : Int) - (s : Int)) = ((n0 + L : Nat) : Int) by have := HS0.out; omega]
            refine (insert_end (w.heap.size + 1) 40 (w.heap.size + 1) (n0 + L) 39 wr.heap.size (.int .u8 46) ((sg ++ rep L m).map Bt) _ (by omega) (hown.alloc _) rfl (heap_alloc_new wr _)).mono ?_
            rintro e w2 ⟨rfl, hown2, hgrow2⟩
            have hc0' := grown_cell hgrow2 (bcell ((Below.refl _ _).alloc (Nat.le_refl _) _) hc0) (by omega)
            have hc1' := grown_cell hgrow2 (bcell ((Below.refl _ _).alloc (Nat.le_refl _) _) hc1) (by omega)
            have hb2 : Below w.heap.size w w2 := (hb.alloc hb.size _).grown hgrow2 (by simp; omega) (by intro k hk; simp at hk; omega)
            have hs2 : w.heap.size + 2 ≤ w2.heap.size := by have := hgrow2.size; simp at this; omega
            have hown3 := own_list hown2 (l := X) (by rw [HX.out, HS0.out]; simp [Bt, List.take_of_length_le (Nat.le_of_eq (rep_length L m)), List.drop_eq_nil_of_le (Nat.le_of_eq (rep_length L m))])
            clear hown hown2 hgrow2 hc0 hc1 hb hsz
            rename World => WI
            go_wp2_with fail
            go_loopw [6, 47] (fun v i wr => ∃ t g cap lab : Nat, s + t ≤ p ∧ i = .int .i64 t ∧ v = .slice (some ⟨g, 0, none⟩) (n0 + L + 1 + t) cap ∧ wr.ownsRow (w.heap.size + 1) lab 1 (.slice (some ⟨g, 0, none⟩) (n0 + L + 1 + t) cap) (n0 + L + 1 + t) ((X ++ List.replicate t 48).map Bt) ∧ Below w.heap.size w wr ∧ w.heap.size + 2 ≤ wr.heap.size) (fun _ i _ => p - s - (intOf i).toNat)
            case atStart => exact ⟨0, _, _, 40, by omega, rfl, rfl, by simpa using hown3, hb2, hs2⟩
            case round =>
              obtain ⟨t, g, cap, lab, ht, rfl, rfl, hown4, hb4, hs4⟩ := hrel
              clear hown3 hb2 hs2 hc0' hc1'
              by_cases htp : s + t < p
              · have hlt : (t : Int) < (p : Int) - (s : Int) := by omega
                go_wp2_with (at_builtin; refine wpList_append_lab _ rfl _ _ 35 rfl (w.heap.size + 1) 5 lab i0 (.int .u8 0) Tryd.underlying35 hi hz0 hz1 hz2 rfl g (n0 + L + 1 + t) cap _ rfl (hown4.alloc _) ⟨wr.heap.size, 0, none⟩ 1 1 [.int .u8 48] rfl rfl (cell_new _ _ _) (one_int _ _) (by omega) (by simp; omega) ?_; intro v5 w5 lab5 hown5 hgrow5)
                obtain ⟨g5, cap5, rfl, hg5, hg5l, hcap5, hcm5⟩ := own_shape hown5 (by omega)
                go_roundw
                case rel =>
                  refine ⟨t + 1, g5, cap5, lab5, by omega, by go_num, rfl, own_list hown5 (by rw [List.replicate_succ', ← List.append_assoc, List.map_append (l₂ := [48])]; rfl), (hb4.alloc hb4.size _).grown hgrow5 (by simp; omega) (fun k hk => by have := (hown4.lt k hk).1; omega), ?_⟩
                  have := hgrow5.size
                  simp at this
                  omega
                case measure => simp [intOf]; omega
              · have hlt : ¬ (t : Int) < (p : Int) - (s : Int) := by omega
                have HT : Hid (t = p - s) := by show _ = _; omega
                have hconv := own_conv_lab hown4 (by rw [List.length_append, List.length_replicate, HXL.out])
                go_wp2
                go_ret
                refine ⟨L, by rw [HM.out]; exact HF.out, ?_, hb4⟩
                refine congrArg (fun l : List UInt8 => Ending.returned (Value.string ⟨l.toArray⟩)) ?_
                unfold textS
                rw [HM.out, if_pos HP0.out, HX.out, HT.out, HSG.out]
                simp
          · have hs1 : 1 ≤ s := by omega
            clear hs0
            go_wp2_with fail
            rw [show ((n0 : Int) + (L : Int) - (s : Int)) = ((n0 + L - s : Nat) : Int) by omega]
            refine (insert_shift (w.heap.size + 1) 40 (w.heap.size + 1) (n0 + L) 39 (n0 + L - s) wr.heap.size (.int .u8 46) ((sg ++ rep L m).map Bt) _ (by omega) (by omega) (hown.alloc _) (bt_one _) rfl (heap_alloc_new wr _) (by omega)).mono ?_
            rintro e w2 ⟨rfl, hown2, hgrow2⟩
            have hc0' := grown_cell hgrow2 (bcell ((Below.refl _ _).alloc (Nat.le_refl _) _) hc0) (by omega)
            have hc1' := grown_cell hgrow2 (bcell ((Below.refl _ _).alloc (Nat.le_refl _) _) hc1) (by omega)
            have hb2 : Below w.heap.size w w2 := (hb.alloc hb.size _).grown hgrow2 (by simp; omega) (by intro k hk; simp at hk; omega)
            have hs2 : w.heap.size + 2 ≤ w2.heap.size := by have := hgrow2.size; simp at this; omega
            have hown3 := own_list hown2 (l := X) (by rw [HX.out]; have e := ins_point sg L m s (by omega); rw [HN0.out] at e; exact e)
            clear hown hown2 hgrow2 hc0 hc1 hb hsz
            rename World => WI
            go_wp2_with fail
            go_loopw [6, 47] (fun v i wr => ∃ t g cap lab : Nat, s + t ≤ p ∧ i = .int .i64 t ∧ v = .slice (some ⟨g, 0, none⟩) (n0 + L + 1 + t) cap ∧ wr.ownsRow (w.heap.size + 1) lab 1 (.slice (some ⟨g, 0, none⟩) (n0 + L + 1 + t) cap) (n0 + L + 1 + t) ((X ++ List.replicate t 48).map Bt) ∧ Below w.heap.size w wr ∧ w.heap.size + 2 ≤ wr.heap.size) (fun _ i _ => p - s - (intOf i).toNat)
            case atStart => exact ⟨0, _, _, 40, by omega, rfl, rfl, by simpa using hown3, hb2, hs2⟩
            case round =>
              obtain ⟨t, g, cap, lab, ht, rfl, rfl, hown4, hb4, hs4⟩ := hrel
              clear hown3 hb2 hs2 hc0' hc1'
              by_cases htp : s + t < p
              · have hlt : (t : Int) < (p : Int) - (s : Int) := by omega
                go_wp2_with (at_builtin; refine wpList_append_lab _ rfl _ _ 35 rfl (w.heap.size + 1) 5 lab i0 (.int .u8 0) Tryd.underlying35 hi hz0 hz1 hz2 rfl g (n0 + L + 1 + t) cap _ rfl (hown4.alloc _) ⟨wr.heap.size, 0, none⟩ 1 1 [.int .u8 48] rfl rfl (cell_new _ _ _) (one_int _ _) (by omega) (by simp; omega) ?_; intro v5 w5 lab5 hown5 hgrow5)
                obtain ⟨g5, cap5, rfl, hg5, hg5l, hcap5, hcm5⟩ := own_shape hown5 (by omega)
                go_roundw
                case rel =>
                  refine ⟨t + 1, g5, cap5, lab5, by omega, by go_num, rfl, own_list hown5 (by rw [List.replicate_succ', ← List.append_assoc, List.map_append (l₂ := [48])]; rfl), (hb4.alloc hb4.size _).grown hgrow5 (by simp; omega) (fun k hk => by have := (hown4.lt k hk).1; omega), ?_⟩
                  have := hgrow5.size
                  simp at this
                  omega
                case measure => simp [intOf]; omega
              · have hlt : ¬ (t : Int) < (p : Int) - (s : Int) := by omega
                have HT : Hid (t = p - s) := by show _ = _; omega
                have hconv := own_conv_lab hown4 (by rw [List.length_append, List.length_replicate, HXL.out])
                go_wp2
                go_ret
                refine ⟨L, by rw [HM.out]; exact HF.out, ?_, hb4⟩
                refine congrArg (fun l : List UInt8 => Ending.returned (Value.string ⟨l.toArray⟩)) ?_
                unfold textS
                rw [HM.out, if_pos HP0.out, HX.out, HT.out, HSG.out]
                simp
end Go.Proofs.Qxb6612180aDoor
