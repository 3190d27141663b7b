/-
  WALKS for seat b6612230a: zzWords, zzSameWithoutSpace.
-/
import Derived.Test.Qxb6612230aWalkA
namespace Go.Proofs.Qxb6612230a
open Go.RowKit

def wk (l : List UInt8) (k : Nat) : Nat × Bool := (l.take k).foldl wstep (0, true)
theorem wk_succ (s : ByteArray) (k : Nat) (h : k < s.size) : wk s.data.toList (k + 1) = wstep (wk s.data.toList k) s[k] := by
  unfold wk
  rw [List.take_succ_eq_append_getElem (by simpa using h), List.foldl_append]
  rfl
theorem wk_le (l : List UInt8) : ∀ k, (wk l k).1 ≤ k
  | 0 => by simp [wk]
  | k + 1 => by
    have ih := wk_le l k
    by_cases h : k < l.length
    · have e : wk l (k + 1) = wstep (wk l k) l[k] := by
        unfold wk
        rw [List.take_succ_eq_append_getElem h, List.foldl_append]
        rfl
      rw [e]
      unfold wstep
      simp only
      split <;> omega
    · have e : wk l (k + 1) = wk l k := by
        unfold wk
        rw [List.take_of_length_le (by omega), List.take_of_length_le (by omega)]
      rw [e]; omega
theorem wk_prev (s : ByteArray) (k : Nat) (h : k < s.size) : (wk s.data.toList (k + 1)).2 = sp s[k] := by
  rw [wk_succ s k h]; rfl

set_option maxHeartbeats 1600000 in
theorem words_any (s : ByteArray) (w : World) (hs : s.size ≤ 1048576) :
    Calls Try.prog 9 #[.string s] w fun e w' => e = .returned (.int .i64 (wordsOf s.data.toList)) ∧ w = w' := by
  go_enter Try.func9, Try.ntmps9
  go_wp2
  go_loop [3, 4] (fun n i => ∃ k m : Nat, k ≤ s.size ∧ Hid ((wk s.data.toList k).1 = m) ∧ m ≤ k ∧ i = .int .i64 k ∧ n = .int .i64 m) (fun _ i => s.size - (intOf i).toNat)
  case atStart => exact ⟨0, 0, Nat.zero_le _, rfl, Nat.le_refl _, rfl, rfl⟩
  case round =>
    obtain ⟨k, m, hk, hwk, hm, rfl, rfl⟩ := hrel
    by_cases hlt : k < s.size
    · have hle := wk_le s.data.toList (k + 1)
      have HT : Hid ((wk s.data.toList (k + 1)).1 = if (!sp s[k] && (wk s.data.toList k).2) = true then m + 1 else m) := by
        show _ = _
        rw [wk_succ s k hlt]; unfold wstep; simp only [hwk.out]
      cases hsp : sp s[k] with
      | true =>
        have hspI : spI (s[k].toNat : Int) = true := by rw [spI_byte]; exact hsp
        have HT' : Hid ((wk s.data.toList (k + 1)).1 = m) := by show _ = _; rw [HT.out]; simp [hsp]
        clear HT hle hsp hwk
        go_wp2_with (go_at_call 12; refine (space_any _ _).mono ?_; rintro e w' ⟨rfl, rfl⟩)
        go_round
        case rel => exact ⟨k + 1, m, by omega, HT', by omega, by go_num, rfl⟩
        case measure => simp [intOf]; omega
      | false =>
        have hspI : spI (s[k].toNat : Int) = false := by rw [spI_byte]; exact hsp
        by_cases hk0 : k = 0
        · subst hk0
          have HT' : Hid ((wk s.data.toList (0 + 1)).1 = m + 1) := by show _ = _; rw [HT.out]; simp [hsp, wk]
          clear HT hle hsp hwk
          go_wp2_with (go_at_call 12; refine (space_any _ _).mono ?_; rintro e w' ⟨rfl, rfl⟩)
          go_round
          case rel => exact ⟨0 + 1, m + 1, by omega, HT', by omega, by go_num, by go_num⟩
          case measure => simp [intOf]; omega
        · obtain ⟨j, rfl⟩ : ∃ j, k = j + 1 := ⟨k - 1, by omega⟩
          have hj : j < s.size := by omega
          have hprev := wk_prev s j hj
          cases hsj : sp s[j] with
          | true =>
            have hsjI : spI (s[j].toNat : Int) = true := by rw [spI_byte]; exact hsj
            have HT' : Hid ((wk s.data.toList (j + 1 + 1)).1 = m + 1) := by show _ = _; rw [HT.out, hprev]; simp [hsp, hsj]
            clear HT hle hsp hwk hprev hsj
            go_wp2_with (go_at_call 12; refine (space_any _ _).mono ?_; rintro e w' ⟨rfl, rfl⟩)
            go_round
            case rel => exact ⟨j + 1 + 1, m + 1, by omega, HT', by omega, by go_num, by go_num⟩
            case measure => simp [intOf]; omega
          | false =>
            have hsjI : spI (s[j].toNat : Int) = false := by rw [spI_byte]; exact hsj
            have HT' : Hid ((wk s.data.toList (j + 1 + 1)).1 = m) := by show _ = _; rw [HT.out, hprev]; simp [hsp, hsj]
            clear HT hle hsp hwk hprev hsj
            go_wp2_with (go_at_call 12; refine (space_any _ _).mono ?_; rintro e w' ⟨rfl, rfl⟩)
            go_round
            case rel => exact ⟨j + 1 + 1, m, by omega, HT', by omega, by go_num, rfl⟩
            case measure => simp [intOf]; omega
    · have hke : k = s.size := by omega
      have HO : Hid (wordsOf s.data.toList = m) := by
        show _ = _
        have := hwk.out
        rw [hke] at this
        unfold wk at this
        rw [List.take_of_length_le (by simp)] at this
        exact this
      clear hke hwk
      go_wp2
      go_ret
      exact ⟨by rw [HO.out]; rfl, rfl⟩

def FF (l : List UInt8) (i : Nat) : List UInt8 := (l.drop i).filter (fun c => !sp c)
def GG (l : List UInt8) (i : Nat) : List UInt8 := (l.drop i).filter (fun c => !(c == 32))
theorem drop_at (s : ByteArray) (i : Nat) (h : i < s.size) : s.data.toList.drop i = s[i] :: s.data.toList.drop (i + 1) := by
  rw [List.drop_eq_getElem_cons (by simpa using h)]; rfl
theorem FF_skip (s : ByteArray) (i : Nat) (h : i < s.size) (hs : sp s[i] = true) : FF s.data.toList (i + 1) = FF s.data.toList i := by
  unfold FF; rw [drop_at s i h]; simp [hs]
theorem FF_take (s : ByteArray) (i : Nat) (h : i < s.size) (hs : sp s[i] = false) : FF s.data.toList i = s[i] :: FF s.data.toList (i + 1) := by
  unfold FF; rw [drop_at s i h]; simp [hs]
theorem FF_end (s : ByteArray) : FF s.data.toList s.size = [] := by
  unfold FF; rw [List.drop_eq_nil_of_le (by simp)]; rfl
theorem GG_skip (s : ByteArray) (i : Nat) (h : i < s.size) (hs : (s[i] == 32) = true) : GG s.data.toList (i + 1) = GG s.data.toList i := by
  unfold GG; rw [drop_at s i h]; simp [hs]
theorem GG_take (s : ByteArray) (i : Nat) (h : i < s.size) (hs : (s[i] == 32) = false) : GG s.data.toList i = s[i] :: GG s.data.toList (i + 1) := by
  unfold GG; rw [drop_at s i h]; simp [hs]
theorem GG_end (s : ByteArray) : GG s.data.toList s.size = [] := by
  unfold GG; rw [List.drop_eq_nil_of_le (by simp)]; rfl
theorem beq32 (c : UInt8) : ((c.toNat : Int) == 32) = (c == 32) := by
  rw [Bool.eq_iff_iff]; simp [← UInt8.toNat_inj]; omega

set_option maxHeartbeats 3200000 in
theorem same_any (s t : ByteArray) (w : World) (hs : s.size ≤ 1048576) (ht : t.size ≤ 1048576) (hfg : Hid (FF s.data.toList 0 = GG t.data.toList 0)) :
    Calls Try.prog 10 #[.string s, .string t] w fun e w' => e = .returned (.bool true) ∧ ∃ q, w' = w.drewN q := by
  go_enter Try.func10, Try.ntmps10
  go_wp2
  go_loopw [5, 6] (fun x y wr => ∃ i j q : Nat, i ≤ s.size ∧ j ≤ t.size ∧ Hid (FF s.data.toList i = GG t.data.toList j) ∧ x = .int .i64 i ∧ y = .int .i64 j ∧ wr = w.drewN q) (fun x _ _ => s.size - (intOf x).toNat)
  case atStart => exact ⟨0, 0, 0, Nat.zero_le _, Nat.zero_le _, hfg, rfl, rfl, rfl⟩
  case round =>
    obtain ⟨i0, j0, q, hi0, hj0, h0, rfl, rfl, rfl⟩ := hrel
    clear hfg
    go_wp2_with fail
    go_loop [5] (fun x => ∃ i : Nat, i0 ≤ i ∧ i ≤ s.size ∧ Hid (FF s.data.toList i = GG t.data.toList j0) ∧ x = .int .i64 i) (fun x => s.size - (intOf x).toNat)
    case atStart => exact ⟨i0, Nat.le_refl _, hi0, h0, rfl⟩
    case round =>
      obtain ⟨i, hii, hi, h1, rfl⟩ := hrel
      by_cases hilt : i < s.size
      · cases hsp : sp s[i] with
        | true =>
          have hspI : spI (s[i].toNat : Int) = true := by rw [spI_byte]; exact hsp
          have h3 : Hid (FF s.data.toList (i + 1) = GG t.data.toList j0) := by show _ = _; rw [FF_skip s i hilt hsp]; exact h1.out
          clear hsp
          go_wp2_with (go_at_call 12; refine (space_any _ _).mono ?_; rintro e w' ⟨rfl, rfl⟩)
          go_round
          case rel => exact ⟨i + 1, by omega, by omega, h3, by go_num⟩
          case measure => simp [intOf]; omega
        | false =>
          have hspI : spI (s[i].toNat : Int) = false := by rw [spI_byte]; exact hsp
          go_wp2_with (go_at_call 12; refine (space_any _ _).mono ?_; rintro e w' ⟨rfl, rfl⟩)
          go_loop [6] (fun y => ∃ j : Nat, j0 ≤ j ∧ j ≤ t.size ∧ Hid (FF s.data.toList i = GG t.data.toList j) ∧ y = .int .i64 j) (fun y => t.size - (intOf y).toNat)
          case atStart => exact ⟨j0, Nat.le_refl _, hj0, h1, rfl⟩
          case round =>
            obtain ⟨j, hjj, hj, h2, rfl⟩ := hrel
            by_cases hjlt : j < t.size
            · cases h32 : (t[j] == 32) with
              | true =>
                have h32I : ((t[j].toNat : Int) == 32) = true := by rw [beq32]; exact h32
                have h3 : Hid (FF s.data.toList i = GG t.data.toList (j + 1)) := by show _ = _; rw [GG_skip t j hjlt h32]; exact h2.out
                clear h32
                go_wp2
                go_round
                case rel => exact ⟨j + 1, by omega, by omega, h3, by go_num⟩
                case measure => simp [intOf]; omega
              | false =>
                have h32I : ((t[j].toNat : Int) == 32) = false := by rw [beq32]; exact h32
                have hd : s[i] :: FF s.data.toList (i + 1) = t[j] :: GG t.data.toList (j + 1) := by rw [← FF_take s i hilt hsp, ← GG_take t j hjlt h32]; exact h2.out
                have he := (List.cons.inj hd).1
                have h3 : Hid (FF s.data.toList (i + 1) = GG t.data.toList (j + 1)) := (List.cons.inj hd).2
                have heI : (s[i].toNat : Int) = (t[j].toNat : Int) := by rw [he]
                have HeI : Hid ((s[i].toNat : Int) = (t[j].toNat : Int)) := heI
                have hneq : ((s[i].toNat : Int) != (t[j].toNat : Int)) = false := by rw [heI]; simp
                have hin : ((i : Int) == (s.size : Int)) = false := by simp; omega
                have hjn : ((j : Int) == (t.size : Int)) = false := by simp; omega
                clear hd he h32 heI hsp h0 h1 h2
                go_wp2_with fail
                go_quiet (fail)
                go_wp2
                go_roundw
                case rel => exact ⟨i + 1, j + 1, _, by omega, by omega, h3, by go_num, by go_num, by first | rfl | (simp [World.drewN]; rfl)⟩
                case measure => simp [intOf]; omega
            · have hje : j = t.size := by omega
              subst hje
              exfalso
              have := h2.out
              rw [FF_take s i hilt hsp, GG_end] at this
              exact absurd this (by simp)
      · have hie : i = s.size := by omega
        subst hie
        go_wp2_with fail
        go_loop [6] (fun y => ∃ j : Nat, j0 ≤ j ∧ j ≤ t.size ∧ Hid (FF s.data.toList s.size = GG t.data.toList j) ∧ y = .int .i64 j) (fun y => t.size - (intOf y).toNat)
        case atStart => exact ⟨j0, Nat.le_refl _, hj0, h1, rfl⟩
        case round =>
          obtain ⟨j, hjj, hj, h2, rfl⟩ := hrel
          by_cases hjlt : j < t.size
          · cases h32 : (t[j] == 32) with
            | true =>
              have h32I : ((t[j].toNat : Int) == 32) = true := by rw [beq32]; exact h32
              have h3 : Hid (FF s.data.toList s.size = GG t.data.toList (j + 1)) := by show _ = _; rw [GG_skip t j hjlt h32]; exact h2.out
              clear h32
              go_wp2
              go_round
              case rel => exact ⟨j + 1, by omega, by omega, h3, by go_num⟩
              case measure => simp [intOf]; omega
            | false =>
              have h32I : ((t[j].toNat : Int) == 32) = false := by rw [beq32]; exact h32
              exfalso
              have := h2.out
              rw [GG_take t j hjlt h32, FF_end] at this
              exact absurd this (by simp)
          · have hje : j = t.size := by omega
            subst hje
            go_wp2
            go_ret
            exact ⟨rfl, _, rfl⟩
end Go.Proofs.Qxb6612230a
