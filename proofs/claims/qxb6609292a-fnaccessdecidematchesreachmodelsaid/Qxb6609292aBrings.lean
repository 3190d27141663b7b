/-
  WALKS for seat b6609292a: shareBrings.
-/
import Derived.Test.Qxb6609292aUp
import Derived.Test.Qxb6609292aShares
set_option linter.unusedVariables false
set_option linter.unusedSimpArgs false
namespace Go.Proofs.Qxb6609292a
open Go.RowKit Go.Maps

def Brings (P : List Int) (ids : List ByteArray) (top : Nat) (scope : Int) (id dest : ByteArray) (o : Nat) (perm : ByteArray) (s : Share) : Prop :=
  s.id = id ∧ s.dest = dest ∧ posD ids s.owner = o ∧ (s.perms = [] ∨ perm ∈ s.perms) ∧ Reaches P top scope (posD ids s.dest)

set_option maxRecDepth 100000 in
set_option maxHeartbeats 3200000 in
theorem shareBrings_any (P : List Int) (rank : Nat → Nat) (g0 : Nat) (ids : List ByteArray) (b N : Nat) (v : Value) (ss : List Share) (top o : Nat) (scope : Int) (id dest perm : ByteArray) (w : World)
    (hP : Blk w g0 (P.map iI)) (hR : Rng P) (hrk : Ranked P rank) (hm : SM w 3 b N (posF ids ids.length)) (h : SharesAt w v ss) (hn : ss.length ≤ 1048576) (hnp : ∀ s ∈ ss, s.perms.length ≤ 1048576) (hd : ∀ s ∈ ss, posD ids s.dest < P.length) :
    Calls Try.prog 22 #[v, .map (some b), .slice (some ⟨g0, 0, none⟩) P.length P.length, .int .i64 top, .int .i64 scope, .string id, .string dest, .int .i64 o, .string perm] w
      fun e w' => ∃ q : Bool, (q = true ↔ ∃ s ∈ ss, Brings P ids top scope id dest o perm s) ∧ e = .returned (.bool q) ∧ w = w' := by
  obtain ⟨ao, cap, rfl, hcap⟩ := h.shape
  go_enter Try.func22, Try.ntmps22
  go_wp2_with fail
  go_loopw [22] (fun j wr => ∃ k : Nat, j = .int .i64 k ∧ k ≤ ss.length ∧ (∀ s ∈ ss.take k, ¬ Brings P ids top scope id dest o perm s) ∧ w = wr) (fun i _ => ss.length - (intOf i).toNat)
  case atStart => exact ⟨0, rfl, Nat.zero_le _, by simp, rfl⟩
  case round =>
    obtain ⟨k, rfl, hk, hnot, rfl⟩ := hrel
    by_cases hlt : k < ss.length
    · obtain ⟨s, hs⟩ := get_at ss k hlt
      obtain ⟨bb, off, rfl, c0, c1, c2, c3, c4, ok⟩ := h.at hs
      have hl1 := hm.posD ok.2.1
      have hl2 := hm.posD ok.2.2.1
      have hdl := hd s (List.mem_of_getElem? hs)
      have hpl := hnp s (List.mem_of_getElem? hs)
      have hst := ok.2.2.2.2
      obtain ⟨sa, sc, hsv, hsc⟩ := hst.shape
      rw [hsv] at c3 hst
      have HS : Hid (ss[k]? = some s) := hs
      have HN : ¬ Brings P ids top scope id dest o perm s → ∀ x ∈ ss.take (k + 1), ¬ Brings P ids top scope id dest o perm x := fun hb => all_take_succ HS.out hnot hb
      clear hs hsv
      rcases str_test s.id id with ⟨e1, e2⟩ | ⟨e1, e2⟩
      · rcases str_test s.dest dest with ⟨e3, e4⟩ | ⟨e3, e4⟩
        · rcases int_test (posD ids s.owner : Int) (o : Int) with ⟨e5, e6⟩ | ⟨e5, e6⟩
          · go_wp2_with (go_at_call 47; refine (covers_any _ s.perms perm w hst hpl).mono ?_; rintro e w' ⟨q1, hq1', rfl, rfl⟩; have hq1 : Hid (q1 = true ↔ (s.perms = [] ∨ perm ∈ s.perms)) := hq1'; clear hq1'; cases q1)
            · have hne := HN (fun hb => by have := hq1.out.2 hb.2.2.2.1; cases this)
              go_roundw
              case rel => exact ⟨k + 1, by go_num, by omega, hne, by trivial⟩
              case measure => simp [intOf]; omega
            · go_wp2_with (go_at_call 46; refine (reachesByGrant_any P rank g0 top _ scope w hP hR hrk hdl).mono ?_; rintro e w' ⟨q2, hq2', rfl, rfl⟩; have hq2 : Hid (q2 = true ↔ Reaches P top scope (posD ids s.dest)) := hq2'; clear hq2'; cases q2)
              · have hne := HN (fun hb => by have := hq2.out.2 hb.2.2.2.2; cases this)
                go_roundw
                case rel => exact ⟨k + 1, by go_num, by omega, hne, by trivial⟩
                case measure => simp [intOf]; omega
              · go_ret
                exact ⟨true, by simp; exact ⟨s, List.mem_of_getElem? HS.out, e2.out, e4.out, Int.ofNat.inj e6.out, hq1.out.1 (by trivial), hq2.out.1 (by trivial)⟩, rfl, rfl⟩
          · have hne := HN (fun hb => e6 (by rw [hb.2.2.1]))
            go_wp2_with fail
            go_roundw
            case rel => exact ⟨k + 1, by go_num, by omega, hne, by trivial⟩
            case measure => simp [intOf]; omega
        · have hne := HN (fun hb => e4 hb.2.1)
          go_wp2_with fail
          go_roundw
          case rel => exact ⟨k + 1, by go_num, by omega, hne, by trivial⟩
          case measure => simp [intOf]; omega
      · have hne := HN (fun hb => e2 hb.1)
        go_wp2_with fail
        go_roundw
        case rel => exact ⟨k + 1, by go_num, by omega, hne, by trivial⟩
        case measure => simp [intOf]; omega
    · obtain rfl : k = ss.length := by omega
      rw [List.take_length] at hnot
      go_wp2
      go_ret
      exact ⟨false, by simp; exact fun s hs hb => hnot s hs hb, rfl, rfl⟩
end Go.Proofs.Qxb6609292a
