/-
  WALKS for seat b6612230a: zzTokenModel.
-/
import Derived.Test.Qxb6612230aWalkA
import Derived.Laws.IdiomStrings
namespace Go.Proofs.Qxb6612230a
open Go.RowKit

theorem Try.info5 : (Try.prog.info? 5).map (fun i => (i.zero, i.size, i.bytes)) = some (some (.int .u8 0), 1, 1) := by kernel_rfl
def B (c : UInt8) : Value := .int .u8 (c.toNat : Int)
/-- The scanner's state when k bytes have been read. -/
def ty (l : List UInt8) (k : Nat) : List UInt8 × Bool := (l.take k).foldl tstep ([], false)
theorem ty_succ (s : ByteArray) (k : Nat) (h : k < s.size) : ty s.data.toList (k + 1) = tstep (ty s.data.toList k) s[k] := by
  unfold ty
  rw [List.take_succ_eq_append_getElem (by simpa using h), List.foldl_append]
  rfl
theorem ty_len (l : List UInt8) (k : Nat) : (ty l k).1.length + (if (ty l k).2 then 1 else 0) ≤ k := by
  have h := (left_tm (l.take k)).len
  have := List.length_take_le k l
  unfold ty
  omega

theorem ownsB_conv {w : World} {base g cap : Nat} {l : List UInt8} (h : w.ownsRow base 5 1 (.slice (some ⟨g, 0, none⟩) l.length cap) l.length (l.map B)) :
    (convert 26 9 (.slice (some ⟨g, 0, none⟩) l.length cap)).run Try.prog w = .ok (.string ⟨l.toArray⟩) w := by
  refine run_convert_bytes_back w 26 9 5 ⟨g, 0, none⟩ cap l Try.underlying26 Try.underlying5 Try.underlying9 (fun j hj => ?_)
  have := h.cellAt j (by omega)
  have e : (⟨g, 0, none⟩ : Addr).add j = ⟨g, j, none⟩ := by simp [Addr.add]; omega
  rw [e, this]
  simp [B, hj]

theorem cell_new (w : World) (v : Value) (t : TypeId) : ∀ j u, [v][j]? = some u → (w.alloc (.cells #[v] t)).cell? ((⟨w.heap.size, 0, none⟩ : Addr).add j) = some u := by
  intro j u hj
  match j, hj with
  | 0, hj => simp at hj; subst hj; simp [Addr.add]

set_option maxHeartbeats 1600000 in
theorem model_any (s : ByteArray) (w : World) (hs : s.size ≤ 1048576) :
    Calls Try.prog 7 #[.string s] w fun e w' => e = .returned (.string ⟨(tm s.data.toList).toArray⟩) ∧ Below w.heap.size w w' := by
  obtain ⟨i0, hi, hz0, hz1, hz2⟩ := info_parts Try.info5
  go_enter Try.func7, Try.ntmps7
  go_wp2_with (first
    | (at_make; refine wpList_make_own _ rfl _ _ 26 rfl w.heap.size 5 i0 (.int .u8 0) 1 Try.underlying26 hi hz0 hz1 .i64 .i64 _ s.size rfl rfl (by omega) (by rw [hz2]; omega) (by unfold maxLen; omega) (Nat.le_refl _) ?_; intro w0 hown0 hgrow0))
  have hb0 : Below w.heap.size w w0 := (Below.refl _ _).grown hgrow0 (Nat.le_refl _) (by simp)
  go_loopw [3, 4, 5] (fun o g i wr => ∃ (k : Nat) (out : List UInt8) (gap : Bool), k ≤ s.size ∧ Hid (ty s.data.toList k = (out, gap)) ∧ i = .int .i64 k ∧ g = .bool gap ∧ o = .slice (some ⟨w.heap.size, 0, none⟩) out.length s.size ∧
      wr.ownsRow w.heap.size 5 1 (.slice (some ⟨w.heap.size, 0, none⟩) out.length s.size) out.length (out.map B) ∧ Below w.heap.size w wr) (fun _ _ i _ => s.size - (intOf i).toNat)
  case atStart => exact ⟨0, [], false, Nat.zero_le _, rfl, rfl, rfl, rfl, hown0, hb0⟩
  case round =>
    obtain ⟨k, out, gap, hk, hty, rfl, rfl, rfl, hown, hb⟩ := hrel
    clear hown0 hgrow0 hb0
    have hsz := hb.size
    have hlen : out.length + (if gap then 1 else 0) ≤ k := by have := ty_len s.data.toList k; rw [hty.out] at this; exact this
    by_cases hlt : k < s.size
    · have HT : Hid (ty s.data.toList (k + 1) = tstep (out, gap) s[k]) := by show _ = _; rw [ty_succ s k hlt, hty.out]
      cases hsp : sp s[k] with
      | true =>
        have hspI : spI (s[k].toNat : Int) = true := by rw [spI_byte]; exact hsp
        cases out with
        | nil =>
          have HT' : Hid (ty s.data.toList (k + 1) = ([], gap)) := by show _ = _; rw [HT.out]; simp [tstep, hsp]
          clear HT hlen hsp
          go_wp2_with (go_at_call 12; refine (space_any _ _).mono ?_; rintro e w' ⟨rfl, rfl⟩)
          go_roundw
          case rel => exact ⟨k + 1, [], gap, by omega, HT', by go_num, rfl, rfl, hown, hb⟩
          case measure => simp [intOf]; omega
        | cons z r =>
          have HT' : Hid (ty s.data.toList (k + 1) = (z :: r, true)) := by show _ = _; rw [HT.out]; simp [tstep, hsp]
          clear HT hlen hsp
          go_wp2_with (go_at_call 12; refine (space_any _ _).mono ?_; rintro e w' ⟨rfl, rfl⟩)
          go_roundw
          case rel => exact ⟨k + 1, z :: r, true, by omega, HT', by go_num, rfl, rfl, hown, hb⟩
          case measure => simp [intOf]; omega
      | false =>
        have hspI : spI (s[k].toNat : Int) = false := by rw [spI_byte]; exact hsp
        cases gap with
        | false =>
          have HT' : Hid (ty s.data.toList (k + 1) = (out ++ [s[k]], false)) := by show _ = _; rw [HT.out]; simp [tstep, hsp]
          clear HT hsp
          simp only [Bool.false_eq_true, if_false, Nat.add_zero] at hlen
          go_wp2_with (first
            | (go_at_call 12; refine (space_any _ _).mono ?_; rintro e w' ⟨rfl, rfl⟩)
            | (at_builtin; refine wpList_append_fits _ rfl _ _ 26 rfl w.heap.size 5 i0 1 Try.underlying26 hi hz1 w.heap.size out.length s.size _ rfl (hown.alloc _) ⟨wr.heap.size, 0, none⟩ 1 1 [.int .u8 (s[k].toNat : Int)] rfl rfl (cell_new _ _ _) (by intro u hu; simp at hu; subst hu; rfl) (by omega) ?_; intro w1 hown1 hgrow1))
          go_roundw
          case rel =>
            refine ⟨k + 1, out ++ [s[k]], false, by omega, HT', by go_num, rfl, by simp, by simpa [B] using hown1, (hb.alloc hb.size _).grown hgrow1 (by simp; omega) (by intro k' hk'; simp at hk'; omega)⟩
          case measure => simp [intOf]; omega
        | true =>
          have HT' : Hid (ty s.data.toList (k + 1) = (out ++ [32, s[k]], false)) := by show _ = _; rw [HT.out]; simp [tstep, hsp]
          clear HT hsp
          simp only [if_true] at hlen
          go_wp2_with (first
            | (go_at_call 12; refine (space_any _ _).mono ?_; rintro e w' ⟨rfl, rfl⟩)
            | (at_builtin; refine wpList_append_fits _ rfl (.tmp 25) (.tmp 26) 26 rfl w.heap.size 5 i0 1 Try.underlying26 hi hz1 w.heap.size out.length s.size _ rfl (hown.alloc _) ⟨wr.heap.size, 0, none⟩ 1 1 [.int .u8 32] rfl rfl (cell_new _ _ _) (by intro u hu; simp at hu; subst hu; rfl) (by omega) ?_; intro w1 hown1 hgrow1)
            | (at_builtin; refine wpList_append_fits _ rfl (.tmp 28) (.tmp 30) 26 rfl w.heap.size 5 i0 1 Try.underlying26 hi hz1 w.heap.size (out.length + 1) s.size _ rfl (hown1.alloc _) ⟨w1.heap.size, 0, none⟩ 1 1 [.int .u8 (s[k].toNat : Int)] rfl rfl (cell_new _ _ _) (by intro u hu; simp at hu; subst hu; rfl) (by omega) ?_; intro w2 hown2 hgrow2))
          go_roundw
          case rel =>
            have hb1 := (hb.alloc hb.size (.cells #[.int .u8 32] 5)).grown hgrow1 (by simp; omega) (by intro k' hk'; simp at hk'; omega)
            refine ⟨k + 1, out ++ [32, s[k]], false, by omega, HT', by go_num, rfl, by simp, by simpa [B] using hown2, (hb1.alloc hb1.size _).grown hgrow2 (by have := hb1.size; simp; omega) (by intro k' hk'; simp at hk'; omega)⟩
          case measure => simp [intOf]; omega
    · have hke : k = s.size := by omega
      have HO : Hid (tm s.data.toList = out) := by
        show _ = _
        have := hty.out
        rw [hke] at this
        unfold ty at this
        rw [List.take_of_length_le (by simp)] at this
        unfold tm
        rw [this]
      have hconv := ownsB_conv hown
      clear hke hty
      go_wp2
      go_ret
      exact ⟨by rw [HO.out]; rfl, hb⟩
end Go.Proofs.Qxb6612230a
