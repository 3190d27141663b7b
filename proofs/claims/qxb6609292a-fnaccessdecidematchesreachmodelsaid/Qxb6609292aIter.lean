/-
  THE ITERATOR of Model.reached for seat b6609292a: its contract.
-/
import Derived.Test.Qxb6609292aIterA
set_option linter.unusedVariables false
set_option linter.unusedSimpArgs false
namespace Go.Proofs.Qxb6609292a
open Go.RowKit Go.Maps
attribute [local go_sem] Oper.semAt_some

set_option maxRecDepth 100000 in
set_option maxHeartbeats 6400000 in
theorem reached1_in (n : Nat) (hn : 1 ≤ n) (l m a1 a2 a3 : Nat) (os : List Org) (rs : List Role) (ss : List Share) (an : List ByteArray) (role perm : ByteArray) (w : World) (hm : ModelAt w m os rs ss an) (hor : okStr role) (hop : okStr perm)
    (hno : os.length ≤ 1048576) (hnr : rs.length ≤ 1048576) (hns : ss.length ≤ 1048576) (hnp : ∀ s ∈ ss, s.perms.length ≤ 1048576) (hends : ∀ q : Nat, q < os.length → Ends (parL os) q) (hv : ∀ r ∈ rs, r.org ∈ os.map Org.id ∧ ∀ g ∈ r.grants, g.scope = 0 ∨ g.scope = 1)
    (c1 : w.cell? ⟨a1, 0, none⟩ = some (.pointer (some ⟨m, 0, none⟩))) (c2 : w.cell? ⟨a2, 0, none⟩ = some (.string role)) (c3 : w.cell? ⟨a3, 0, none⟩ = some (.string perm))
    (J Jx : List Vis → World → Prop) (W : World) (hW : Ext w W) (hJ : AbidesFrom W.heap.size J)
    (hY : ∀ pre x W1, VOk rs ss role x → J pre W1 → pre.length < visN os ss → YieldAt Fence.wide (n - 1) Try.prog l (encV x) W1 fun e W' => (e = .returned (.bool true) ∧ J (pre ++ [x]) W' ∧ Kc w.heap.size W1 W') ∨ (e = .returned (.bool false) ∧ Jx (pre ++ [x]) W')) (h0 : J [] W) :
    CallsIn Fence.wide n Try.prog 70 #[.func (.yield l) #[] #[], .pointer (some ⟨a1, 0, none⟩), .pointer (some ⟨a2, 0, none⟩), .pointer (some ⟨a3, 0, none⟩)] W fun e W' => (∃ v, e = .returned v) ∧
      ((∃ xs, VisS os rs ss an role perm xs ∧ J xs W') ∨ (∃ pre, VisP os rs ss an role perm pre ∧ Jx pre W')) := by
  have d1 := hW.cell c1
  have d2 := hW.cell c2
  have d3 := hW.cell c3
  refine callsIn_of_wp Try.func70 rfl trivial ?_ rfl
  simp only [Try.ntmps70, List.size_toArray, List.length_cons, List.length_nil, Nat.reduceAdd, Nat.reduceSub, Array.replicate_succ, Array.replicate_zero, List.push_toArray, List.append_toArray, List.nil_append, List.cons_append]
  gi_wp2_with (refine ⟨trivial, ?_⟩; gi_at_call 71; refine (callsIn_wide.2 (ownReach_any m os rs ss an role perm W (hm.ext hW) hor hop hno hnr hends hv)).mono ?_; rintro e w1 ⟨tz, own, v, hO, ⟨oa, oc, rfl, hI⟩, rfl, hx1⟩)
  have hv' : ∀ r ∈ rs, r.org ∈ os.map Org.id := fun r hr => (hv r hr).1
  have hol := own_len hO.out hv'
  have holt := own_lt hO.out hv'
  have hN : visN os ss = os.length + os.length * ss.length + os.length + 1 := rfl
  have hI1 : IntsAt w1 (.slice oa own.length oc) own := ⟨oa, oc, rfl, hI⟩
  have hw1 := hW.trans hx1
  have hJ1 := abides_ext hJ h0 hx1
  clear hI d1 d2 d3
  gi_loopw [25] (fun i wr => ∃ k : Nat, i = .int .i64 k ∧ k ≤ own.length ∧ J ((v1 own).take k) wr ∧ Ext w wr ∧ IntsAt wr (.slice oa own.length oc) own) (fun i _ => own.length - (intOf i).toNat)
  case atStart => exact ⟨0, rfl, Nat.zero_le _, hJ1, hw1, hI1⟩
  case round =>
    clear hJ1 hw1 hI1
    obtain ⟨k, rfl, hk, hJs, he, hI⟩ := hrel
    by_cases hlt : k < own.length
    · obtain ⟨p, hp⟩ := get_at own k hlt
      obtain ⟨a', cap', hv'', hcells⟩ := hI
      cases hv''
      obtain ⟨bb, o, rfl, hc⟩ := hcells k p hp
      have hI' : IntsAt wr (.slice (some ⟨bb, o, none⟩) own.length oc) own := ⟨_, oc, rfl, hcells⟩
      have htk : (v1 own).take (k + 1) = (v1 own).take k ++ [(p, 1, 0)] := by
        have h1 : (v1 own)[k]? = some (p, 1, 0) := by unfold v1; rw [List.getElem?_map, hp]; rfl
        have h2 := (List.getElem?_eq_some_iff.1 h1)
        rw [List.take_succ_eq_append_getElem h2.1, h2.2]
      have HT : Hid ((v1 own).take (k + 1) = (v1 own).take k ++ [(p, 1, 0)]) := htk
      obtain ⟨fn, tmps, assign, body, hy, hR⟩ := hY _ (p, 1, 0) wr (Or.inr ⟨Or.inl rfl, own_ok hO.out (Or.inl ⟨p, List.mem_of_getElem? hp⟩)⟩) hJs (by rw [hN, List.length_take]; omega)
      simp only [encV] at hy
      clear hp htk hcells
      have hc' : wr.cell? ⟨bb, o + k, none⟩ = some (.int .i64 (p : Int)) := hc
      clear hc
      gi_wp2
      refine hR.mono ?_
      rintro e W3 (⟨rfl, hJ3, hk3⟩ | ⟨rfl, hJx3⟩)
      · gi_wp2
        go_roundw
        case rel => exact ⟨k + 1, by go_num, by omega, by rw [HT.out]; exact hJ3, he.kc hk3, hI'.kc hk3⟩
        case measure => simp [intOf]; omega
      · gi_wp2
        refine bodyPost_ret (results_none rfl _ _ _) rfl ?_
        refine ⟨⟨_, rfl⟩, .inr ⟨_, ⟨tz, own, [], hO.out, Or.inl rfl, ?_⟩, hJx3⟩⟩
        rw [← HT.out]
        exact ((List.take_prefix _ _).trans (List.prefix_append _ _)).trans (List.prefix_append _ _)
    · obtain rfl : k = own.length := by omega
      have hfull : (v1 own).take own.length = v1 own := by
        have : own.length = (v1 own).length := by simp [v1]
        rw [this, List.take_length]
      rw [hfull] at hJs
      clear hfull hlt hk
      rename World => w2
      repeat (first | (exact reached_t2 n hn l m a1 a2 a3 os rs ss an role perm w hm hor hop hno hnr hns hnp hends hv c1 c2 c3 J Jx _ hJ hY tz own oa oc hO _ he hI hJs) | go_values | gi_guarded | gi_step | gi_upon | (simp only [Int.not_lt, Int.not_le] at *; go_simp))

theorem reached_stops (n : Nat) (hn : 1 ≤ n) (m a1 a2 a3 : Nat) (os : List Org) (rs : List Role) (ss : List Share) (an : List ByteArray) (role perm : ByteArray) (w : World) (hm : ModelAt w m os rs ss an) (hor : okStr role) (hop : okStr perm)
    (hno : os.length ≤ 1048576) (hnr : rs.length ≤ 1048576) (hns : ss.length ≤ 1048576) (hnp : ∀ s ∈ ss, s.perms.length ≤ 1048576) (hends : ∀ q : Nat, q < os.length → Ends (parL os) q) (hv : ∀ r ∈ rs, r.org ∈ os.map Org.id ∧ ∀ g ∈ r.grants, g.scope = 0 ∨ g.scope = 1)
    (c1 : w.cell? ⟨a1, 0, none⟩ = some (.pointer (some ⟨m, 0, none⟩))) (c2 : w.cell? ⟨a2, 0, none⟩ = some (.string role)) (c3 : w.cell? ⟨a3, 0, none⟩ = some (.string perm)) :
    SeqStopsK Fence.wide n Try.prog 70 #[.pointer (some ⟨a1, 0, none⟩), .pointer (some ⟨a2, 0, none⟩), .pointer (some ⟨a3, 0, none⟩)] (fun x : { x : Vis // VOk rs ss role x } => encV x.1) (Kc w.heap.size) (fun ys => VisS os rs ss an role perm (ys.map (·.1))) (fun ys => VisP os rs ss an role perm (ys.map (·.1))) (visN os ss) w := by
  intro l J Jx W hW hJ _ hY h0
  refine (reached1_in n hn l m a1 a2 a3 os rs ss an role perm w hm hor hop hno hnr hns hnp hends hv c1 c2 c3 (fun xs W' => ∃ ys : List { x : Vis // VOk rs ss role x }, ys.map (·.1) = xs ∧ J ys W') (fun xs W' => ∃ ys : List { x : Vis // VOk rs ss role x }, ys.map (·.1) = xs ∧ Jx ys W') W hW ?_ ?_ ⟨[], rfl, h0⟩).mono ?_
  · rintro xs A B row ⟨ys, hys, hj⟩ hg hr
    exact ⟨ys, hys, hJ ys A B row hj hg hr⟩
  · rintro pre x W1 hx ⟨ys, hys, hj⟩ hlen
    refine (hY ys ⟨x, hx⟩ W1 hj (by rw [← hys, List.length_map] at hlen; exact hlen)).mono ?_
    rintro e W' (⟨he, hj', hk⟩ | ⟨he, hj'⟩)
    · exact Or.inl ⟨he, ⟨ys ++ [⟨x, hx⟩], by simp [hys], hj'⟩, hk⟩
    · exact Or.inr ⟨he, ⟨ys ++ [⟨x, hx⟩], by simp [hys], hj'⟩⟩
  · rintro e W' ⟨hv, ⟨xs, hS, ys, hys, hj⟩ | ⟨xs, hS, ys, hys, hj⟩⟩
    · subst hys; exact ⟨hv, Or.inl ⟨ys, hS, hj⟩⟩
    · subst hys; exact ⟨hv, Or.inr ⟨ys, hS, hj⟩⟩

end Go.Proofs.Qxb6609292a
