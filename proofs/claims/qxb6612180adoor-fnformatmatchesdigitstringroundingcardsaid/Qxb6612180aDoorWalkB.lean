/-
  WALKS for seat b6612180aD: zzbUtoa.
-/
import Derived.Test.Qxb6612180aDoorWalkA
namespace Go.Proofs.Qxb6612180aDoor
open Go.RowKit

theorem rep_cons : ∀ (j n : Nat), rep (j + 1) n = dgt (n / 10 ^ j) :: rep j n
  | 0, n => by simp [rep]
  | j + 1, n => by
    show rep (j + 1) (n / 10) ++ [dgt n] = _
    rw [rep_cons j (n / 10), Nat.div_div_eq_div_mul, Nat.pow_succ, Nat.mul_comm 10]
    rfl

/-- The local array when j digits have been laid. -/
def tmpAt (u j : Nat) : List Value := List.replicate (20 - j) (Bt 0) ++ (rep j u).map Bt
theorem tmpAt_len (u j : Nat) (h : j ≤ 20) : (tmpAt u j).length = 20 := by
  unfold tmpAt
  rw [List.length_append, List.length_replicate, List.length_map, rep_length]
  omega
theorem tmpAt_old (u j : Nat) (h : j < 20) : (tmpAt u j)[20 - j - 1]? = some (Bt 0) := by
  unfold tmpAt
  rw [List.getElem?_append_left (by rw [List.length_replicate]; omega)]
  rw [List.getElem?_replicate, if_pos (by omega)]
theorem tmpAt_set (u j : Nat) (h : j < 20) : (tmpAt u j).set (20 - j - 1) (Bt (dgt (u / 10 ^ j))) = tmpAt u (j + 1) := by
  unfold tmpAt
  obtain ⟨a, ha⟩ : ∃ a, 20 - j = a + 1 := ⟨20 - j - 1, by omega⟩
  have e1 : 20 - (j + 1) = a := by omega
  rw [ha, e1, rep_cons, Nat.add_sub_cancel]
  rw [show List.replicate (a + 1) (Bt 0) = List.replicate a (Bt 0) ++ [Bt 0] from List.replicate_succ', List.append_assoc]
  rw [List.set_append_right _ _ (by rw [List.length_replicate]; omega), List.length_replicate, Nat.sub_self]
  rfl
theorem tmpAt_get (u L t : Nat) (hL : L ≤ 20) (ht : t < L) : (tmpAt u L)[20 - L + t]? = ((rep L u).map Bt)[t]? := by
  unfold tmpAt
  rw [List.getElem?_append_right (by rw [List.length_replicate]; omega), List.length_replicate]
  congr 1
  omega
theorem pow_lt_19 (j u : Nat) (h : 10 ^ j ≤ u) (hu : u < 1000000000000000000) : j < 18 := by
  false_or_by_contra
  rename_i hj
  have : 10 ^ 18 ≤ 10 ^ j := Nat.pow_le_pow_right (by decide) (by omega)
  have e : (10 : Nat) ^ 18 = 1000000000000000000 := by decide
  omega
theorem digit_byte (v : Nat) : 48 + (v : Int) % 10 = ((dgt v).toNat : Int) := by
  rw [dgt_toNat]
  omega

set_option maxHeartbeats 1600000 in
set_option maxRecDepth 10000 in
theorem utoa_any (u : Nat) (w : World) (hu : u < 1000000000000000000) :
    Calls Tryd.prog 16 #[.int .u64 (u : Int)] w fun e w' => ∃ v' L, e = .returned v' ∧ Fit 0 u L ∧ w'.ownsRow w.heap.size 5 1 v' L ((rep L u).map Bt) ∧ Below w.heap.size w w' := by
  obtain ⟨i0, hi, hz0, hz1, hz2⟩ := info_parts Tryd.info5
  by_cases h0 : u = 0
  · subst h0
    go_enter Tryd.func16, Tryd.ntmps16
    go_wp2
    go_ret
    refine ⟨_, 1, rfl, ⟨by decide, by decide, .inl rfl⟩, World.ownsRow_lit w #[.int .u8 48] 1 (Nat.le_refl _) (by unfold maxLen; decide) rfl, (Below.refl _ _).alloc (Nat.le_refl _) _⟩
  · have hne : (((u : Int)) == 0) = false := by simp; omega
    go_enter Tryd.func16, Tryd.ntmps16
    have HE : Hid (¬ u = 0) := h0
    clear h0
    go_wp2_with fail
    go_loopw [0, 4] (fun v i wr => ∃ j k x : Nat, j + k = 20 ∧ Hid (x = u / 10 ^ j) ∧ x < 1000000000000000000 ∧ Hid (j = 0 ∨ 10 ^ (j - 1) ≤ u) ∧ v = .int .u64 x ∧ i = .int .i64 k ∧
        wr.ownsRow w.heap.size 43 1 (.slice (some ⟨w.heap.size, 0, none⟩) 20 20) 20 (tmpAt u j) ∧ Below w.heap.size w wr) (fun v _ _ => (intOf v).toNat)
    case atStart =>
      exact ⟨0, 20, u, rfl, (Nat.div_one u).symm, hu, .inl rfl, rfl, rfl, World.ownsRow_lit w #[.int .u8 0, .int .u8 0, .int .u8 0, .int .u8 0, .int .u8 0, .int .u8 0, .int .u8 0, .int .u8 0, .int .u8 0, .int .u8 0, .int .u8 0, .int .u8 0, .int .u8 0, .int .u8 0, .int .u8 0, .int .u8 0, .int .u8 0, .int .u8 0, .int .u8 0, .int .u8 0] 20 (Nat.le_refl _) (by unfold maxLen; decide) rfl, (Below.refl _ _).alloc (Nat.le_refl _) _⟩
    case round =>
      obtain ⟨j, k, x, hjk, hx, hxl, hlow, rfl, rfl, hown, hb⟩ := hrel
      have hsz := hb.size
      by_cases hx0 : x = 0
      · subst hx0
        rename World => WO
        have hfit : Fit 0 u j := by
          have h1 := hx.out
          refine ⟨?_, ?_, ?_⟩
          · by_cases e : j = 0
            · exfalso; rw [e] at h1; simp at h1; exact HE.out h1.symm
            · omega
          · have := Nat.div_eq_zero_iff.1 h1.symm
            have hp := pow_pos' j
            omega
          · exact hlow.out.imp (fun e => by exfalso; rw [e] at h1; simp at h1; exact HE.out h1.symm) id
        have HF : Hid (Fit 0 u j) := hfit
        have hj20 : j ≤ 20 := by omega
        have hj1 : 1 ≤ j := hfit.lo
        clear hfit hx hlow
        have HOT : Hid (WO.ownsRow w.heap.size 43 1 (.slice (some ⟨w.heap.size, 0, none⟩) 20 20) 20 (tmpAt u j)) := hown
        clear hown
        go_wp2_with (first
          | (at_make; refine wpList_make_own _ rfl _ _ 35 rfl (w.heap.size + 1) 5 i0 (.int .u8 0) 1 Tryd.underlying35 hi hz0 hz1 .i64 .i64 _ 20 rfl rfl (by omega) (by rw [hz2]; decide) (by unfold maxLen; decide) (by have := (HOT.out.lt w.heap.size rfl).2; omega) ?_; intro w1 hown1 hgrow1))
        have HO1 : Hid (w1.ownsRow w.heap.size 43 1 (.slice (some ⟨w.heap.size, 0, none⟩) 20 20) 20 (tmpAt u j)) := HOT.out.kept hgrow1 (.inr (by simp [Value.ownBlock]))
        have hb1 : Below w.heap.size w w1 := hb.grown hgrow1 hsz (by simp)
        have hsz1 : w.heap.size + 1 ≤ WO.heap.size := (HOT.out.lt w.heap.size rfl).2
        have hwr := hgrow1.size
        clear HOT hgrow1
        go_loopw [5, 6] (fun o i wr2 => ∃ t : Nat, t ≤ j ∧ i = .int .i64 (k + t : Nat) ∧ o = .slice (some ⟨WO.heap.size, 0, none⟩) t 20 ∧
            wr2.ownsRow (w.heap.size + 1) 5 1 (.slice (some ⟨WO.heap.size, 0, none⟩) t 20) t (((rep j u).map Bt).take t) ∧ Hid (wr2.ownsRow w.heap.size 43 1 (.slice (some ⟨w.heap.size, 0, none⟩) 20 20) 20 (tmpAt u j)) ∧ Below w.heap.size w wr2 ∧ w1.heap.size ≤ wr2.heap.size) (fun _ i _ => 20 - (intOf i).toNat)
        case atStart => exact ⟨0, Nat.zero_le _, rfl, rfl, hown1, HO1, hb1, Nat.le_refl _⟩
        case round =>
          obtain ⟨t, ht, rfl, rfl, hown2, HO2, hb2, hs2⟩ := hrel
          clear hown1 hb1 HO1
          by_cases htj : t < j
          · have hk20 : k + t < 20 := by omega
            obtain ⟨c, hc⟩ : ∃ c : UInt8, (rep j u)[t]? = some c := ⟨_, List.getElem?_eq_getElem (by rw [rep_length]; exact htj)⟩
            have hcell : wr.cell? ⟨w.heap.size, k + t, none⟩ = some (.int .u8 (c.toNat : Int)) := by
              rw [HO2.out.cellAt (k + t) (by omega), show k + t = 20 - j + t by omega, tmpAt_get u j t hj20 htj, List.getElem?_map, hc]; rfl
            have HT : Hid ((((rep j u).map Bt).take t) ++ [.int .u8 (c.toNat : Int)] = ((rep j u).map Bt).take (t + 1)) := by
              show _ = _
              rw [List.take_add_one, List.getElem?_map, hc]; rfl
            clear hc
            go_wp2_with (first
              | (at_builtin; refine wpList_append_fits _ rfl _ _ 35 rfl (w.heap.size + 1) 5 i0 1 Tryd.underlying35 hi hz1 WO.heap.size t 20 _ rfl (hown2.alloc _) ⟨wr.heap.size, 0, none⟩ 1 1 [.int .u8 (c.toNat : Int)] rfl rfl (cell_new _ _ _) (one_int _ _) (by omega) ?_; intro w3 hown3 hgrow3))
            go_roundw
            case rel =>
              refine ⟨t + 1, by omega, by go_num, rfl, by rw [← HT.out]; exact hown3, (HO2.out.alloc _).kept hgrow3 (.inr (by simp [Value.ownBlock]; omega)), (hb2.alloc hb2.size _).grown hgrow3 (by have := hb2.size; simp; omega) (by intro k' hk'; simp at hk'; omega), ?_⟩
              have := hgrow3.size
              simp at this
              omega
            case measure => simp [intOf]; omega
          · obtain rfl : t = j := by omega
            have hke : (k + t : Nat) = 20 := by omega
            go_wp2
            go_ret
            refine ⟨_, t, rfl, HF.out, ?_, hb2⟩
            have hx := hown2
            rw [List.take_of_length_le (by rw [List.length_map, rep_length]; exact Nat.le_refl _)] at hx
            refine ⟨hx.1, hx.2.imp id ?_⟩
            rintro ⟨g, cap, cur, r1, r2, r3⟩
            exact ⟨g, cap, cur, r1, by omega, r3⟩
      · have hpw : 10 ^ j ≤ u := by
          have h1 := hx.out
          false_or_by_contra
          rename_i hn
          rw [Nat.div_eq_of_lt (by omega)] at h1
          exact hx0 h1
        have hj18 := pow_lt_19 j u hpw hu
        obtain ⟨k', rfl⟩ : ∃ k', k = k' + 1 := ⟨k - 1, by omega⟩
        have hk' : k' = 20 - j - 1 := by omega
        have hcell : wr.cell? ⟨w.heap.size, k', none⟩ = some (.int .u8 0) := by
          rw [hown.cellAt k' (by omega), hk']; exact tmpAt_old u j (by omega)
        have hfro := hown.frozenAt k'
        have hst := hown.stored k' (Bt (dgt x))
        have hset : (tmpAt u j).set k' (Bt (dgt x)) = tmpAt u (j + 1) := by rw [hk', hx.out]; exact tmpAt_set u j (by omega)
        rw [hset] at hst
        have HST : Hid _ := hst
        have HD : Hid (48 + (x : Int) % 10 = ((dgt x).toNat : Int)) := digit_byte x
        have hx1 : (0 : Int) < (x : Int) := by omega
        have HX : Hid (x / 10 = u / 10 ^ (j + 1)) := by show _ = _; rw [hx.out, Nat.div_div_eq_div_mul, Nat.pow_succ]
        have HP : Hid (10 ^ j ≤ u) := hpw
        have HB : Hid (Below w.heap.size w (wr.setCell ⟨w.heap.size, k', none⟩ (Bt (dgt x)))) := hb.setCell (Nat.le_refl _) _
        clear hst hset hk' hpw hx hown hb hx0 hlow
        go_wp2
        go_roundw
        case rel =>
          refine ⟨j + 1, k', x / 10, by omega, HX, by omega, .inr HP.out, by go_num, by go_num, ?_, ?_⟩
          · first | exact HST.out.1 | (rw [HD.out]; exact HST.out.1) | fail
          · first | exact HB.out | (rw [HD.out]; exact HB.out)
        case measure => simp [intOf]; omega
end Go.Proofs.Qxb6612180aDoor
