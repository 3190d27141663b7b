/-
  WALKS for seat b6609292a: grantsDistinct.
-/
import Derived.Test.Qxb6609292aWalkB
set_option linter.unusedVariables false
namespace Go.Proofs.Qxb6609292a
open Go.RowKit Go.Maps

set_option maxRecDepth 100000 in
set_option maxHeartbeats 1600000 in
theorem distinct_any (v : Value) (l : List Role) (w : World) (h : RolesAt w v l) (hn : l.length ≤ 1048576) (hn2 : ∀ r ∈ l, r.grants.length ≤ 1048576) :
    Calls Try.prog 7 #[v] w fun e w' => ∃ b : Bool, (b = true → ∀ r ∈ l, (r.grants.map Grant.name).Nodup) ∧ e = .returned (.bool b) ∧ Ext w w' := by
  obtain ⟨ao, cap, rfl, hcap⟩ := h.shape
  have hmm := run_makeMap_hint 86 9 4 Try.underlying86
  go_enter Try.func7, Try.ntmps7
  go_wp2_with fail
  go_loopw [9] (fun j wr => ∃ k : Nat, j = .int .i64 k ∧ k ≤ l.length ∧ (∀ r ∈ l.take k, (r.grants.map Grant.name).Nodup) ∧ Ext w wr) (fun i _ => l.length - (intOf i).toNat)
  case atStart => exact ⟨0, rfl, Nat.zero_le _, by simp, Ext.refl _⟩
  case round =>
    obtain ⟨k, rfl, hk, hall, he⟩ := hrel
    by_cases hlt : k < l.length
    · obtain ⟨o, ho⟩ := get_at l k hlt
      obtain ⟨b, off, rfl, c0, c1, c2, c3, ok⟩ := h.at ho
      have hl2 := hn2 o (List.mem_of_getElem? ho)
      have HO : Hid (l[k]? = some o) := ho
      obtain ⟨ga, gc, hgv, hgc⟩ := ok.2.2.2.shape
      have hG := ok.2.2.2
      rw [hgv] at c3 hG
      clear ho c0 c1 c2 hgv ok
      have d3 := he.cell c3
      rename World => WO
      have e3 := (he.trans (Ext.alloc WO (.map #[] 0))).cell c3
      go_wp2_with fail
      go_loopw [25] (fun j wr => ∃ q : Nat, j = .int .i64 q ∧ q ≤ o.grants.length ∧ ((o.grants.map Grant.name).take q).Nodup ∧ SM wr 4 WO.heap.size q (setF ((o.grants.map Grant.name).take q)) ∧ Ext WO wr) (fun i _ => o.grants.length - (intOf i).toNat)
      case atStart => exact ⟨0, rfl, Nat.zero_le _, by simp, by rw [List.take_zero, setF_nil]; exact SM.made WO 4, Ext.alloc _ _⟩
      case round =>
        obtain ⟨q, rfl, hq, hnd, hsm, heq⟩ := hrel
        have f3 := (he.trans heq).cell c3
        clear hmm
        by_cases hlq : q < o.grants.length
        · obtain ⟨g, hg⟩ := get_at o.grants q hlq
          obtain ⟨gb, goff, rfl, g0, g1, gok⟩ := hG.at hg
          have hG0 := (he.trans heq).cell g0
          have HG : Hid ((o.grants.map Grant.name)[q]? = some g.name) := by show _ = _; rw [List.getElem?_map, hg]; rfl
          clear hg g1
          by_cases hin : g.name ∈ (o.grants.map Grant.name).take q
          · have hlook := hsm.has gok.1 hin
            clear hnd hin hall
            go_wp2_with fail
            go_ret
            exact ⟨false, by simp, rfl, he.trans heq⟩
          · have hlook := hsm.hasnt gok.1 hin
            have hnd' := nodup_take_succ HG.out hnd hin
            clear hnd hin
            go_wp2_with (at_mapUpdate; refine wpList_put _ rfl _ _ _ rfl Try.underlying86 WO.heap.size q _ rfl hsm (by unfold maxLen; omega) _ rfl gok.1 (.bool true) rfl (plain4 true) ?_; intro w1 hsm1 hgrow1)
            go_roundw
            case rel => exact ⟨q + 1, by go_num, by omega, hnd', by rw [← setF_succ HG.out]; exact hsm1, grown_ext heq hgrow1 (by simp)⟩
            case measure => simp [intOf]; omega
        · obtain rfl : q = o.grants.length := by omega
          have hnd' : (o.grants.map Grant.name).Nodup := by
            have e : o.grants.length = (o.grants.map Grant.name).length := by simp
            rw [e, List.take_length] at hnd; exact hnd
          have hall' := all_take_succ HO.out hall hnd'
          clear hall hnd
          go_wp2
          go_roundw
          case rel => exact ⟨k + 1, by go_num, by omega, hall', he.trans heq⟩
          case measure => simp [intOf]; omega
    · obtain rfl : k = l.length := by omega
      rw [List.take_length] at hall
      clear hmm
      go_wp2
      go_ret
      exact ⟨true, fun _ => hall, rfl, he⟩
end Go.Proofs.Qxb6609292a
