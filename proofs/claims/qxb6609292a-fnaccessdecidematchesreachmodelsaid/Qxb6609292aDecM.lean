/-
  WALKS for seat b6609292a: Model.Decide; Access.Decide; .string ⟨#[]⟩, .string ⟨#[]⟩, .string ⟨#[]⟩, .int .i64 0, .string ⟨#[]⟩, .int .i64 0, .string ⟨#[]⟩, .string ⟨#[]⟩newAccess.
-/
import Derived.Test.Qxb6609292aDec
set_option linter.unusedVariables false
set_option linter.unusedSimpArgs false
namespace Go.Proofs.Qxb6609292a
open Go.RowKit Go.Maps
attribute [local go_sem] Oper.semAt_some

set_option maxRecDepth 100000 in
set_option maxHeartbeats 6400000 in
theorem decide_any (m : Nat) (os : List Org) (rs : List Role) (ss : List Share) (an : List ByteArray) (role perm owner : ByteArray) (w : World) (h : ModelAt w m os rs ss an) (hor : okStr role) (hop : okStr perm) (hoo : okStr owner)
    (hno : os.length ≤ 1048576) (hnr : rs.length ≤ 1048576) (hns : ss.length ≤ 1048576) (hnp : ∀ s ∈ ss, s.perms.length ≤ 1048576) (hends : ∀ q : Nat, q < os.length → Ends (parL os) q) (hv : ∀ r ∈ rs, r.org ∈ os.map Org.id ∧ ∀ g ∈ r.grants, g.scope = 0 ∨ g.scope = 1) :
    Calls Try.prog 45 #[.pointer (some ⟨m, 0, none⟩), .string role, .string perm, .string owner] w (DecPost os rs ss an role perm owner w) := by
  by_cases he : owner = E0
  · exact decide_none m os rs ss an role perm owner w h hoo (Or.inl he)
  cases hp : idxTo (os.map Org.id) (os.map Org.id).length owner with
  | none => exact decide_none m os rs ss an role perm owner w h hoo (Or.inr hp)
  | some p =>
    have hm := h
    obtain ⟨T, bO, vR, bR, vU, bU, vS, gS, gM, vc, vd, bA, S, M, Nr, Na, hB, hT, hR', hmr, hSh, hgr, hgS, hgM, hma⟩ := h
    obtain ⟨gi, bp, gp, tS, tM, S1, M1, sv, rv, Nn, t1, t2, t3, t4, t5, t6⟩ := hT.ex
    have hml := hB.lt
    have x3 : Ext w (((w.alloc (.cells #[.pointer (some ⟨m, 0, none⟩)] 35)).alloc (.cells #[.string role] 9)).alloc (.cells #[.string perm] 9)) := ((Ext.alloc _ _).trans (Ext.alloc _ _)).trans (Ext.alloc _ _)
    have x4 : Ext w ((((w.alloc (.cells #[.pointer (some ⟨m, 0, none⟩)] 35)).alloc (.cells #[.string role] 9)).alloc (.cells #[.string perm] 9)).alloc (.cells #[.string ⟨#[]⟩, .string ⟨#[]⟩, .string ⟨#[]⟩, .int .i64 0, .string ⟨#[]⟩, .int .i64 0, .string ⟨#[]⟩, .string ⟨#[]⟩] 55)) := x3.trans (Ext.alloc _ _)
    have x5 : Ext w (((((w.alloc (.cells #[.pointer (some ⟨m, 0, none⟩)] 35)).alloc (.cells #[.string role] 9)).alloc (.cells #[.string perm] 9)).alloc (.cells #[.string ⟨#[]⟩, .string ⟨#[]⟩, .string ⟨#[]⟩, .int .i64 0, .string ⟨#[]⟩, .int .i64 0, .string ⟨#[]⟩, .string ⟨#[]⟩] 55)).alloc (.cells #[.string role, .string perm, .string owner, .int .i64 4, .string ⟨#[]⟩, .int .i64 0, .string ⟨#[]⟩, .string ⟨#[]⟩] 55)) := x4.trans (Ext.alloc _ _)
    have x6 : Ext w ((((((w.alloc (.cells #[.pointer (some ⟨m, 0, none⟩)] 35)).alloc (.cells #[.string role] 9)).alloc (.cells #[.string perm] 9)).alloc (.cells #[.string ⟨#[]⟩, .string ⟨#[]⟩, .string ⟨#[]⟩, .int .i64 0, .string ⟨#[]⟩, .int .i64 0, .string ⟨#[]⟩, .string ⟨#[]⟩] 55)).alloc (.cells #[.string role, .string perm, .string owner, .int .i64 4, .string ⟨#[]⟩, .int .i64 0, .string ⟨#[]⟩, .string ⟨#[]⟩] 55)).alloc (.cells #[.int .i64 (p : Int)] 3)) := x5.trans (Ext.alloc _ _)
    have hR : Blk ((((((w.alloc (.cells #[.pointer (some ⟨m, 0, none⟩)] 35)).alloc (.cells #[.string role] 9)).alloc (.cells #[.string perm] 9)).alloc (.cells #[.string ⟨#[]⟩, .string ⟨#[]⟩, .string ⟨#[]⟩, .int .i64 0, .string ⟨#[]⟩, .int .i64 0, .string ⟨#[]⟩, .string ⟨#[]⟩] 55)).alloc (.cells #[.string role, .string perm, .string owner, .int .i64 4, .string ⟨#[]⟩, .int .i64 0, .string ⟨#[]⟩, .string ⟨#[]⟩] 55)).alloc (.cells #[.int .i64 (p : Int)] 3)) (w.heap.size + 3) (D8 ⟨#[]⟩ ⟨#[]⟩ ⟨#[]⟩ 0 ⟨#[]⟩ 0 ⟨#[]⟩ ⟨#[]⟩) := by
      have := ((Blk.alloc (((w.alloc (.cells #[.pointer (some ⟨m, 0, none⟩)] 35)).alloc (.cells #[.string role] 9)).alloc (.cells #[.string perm] 9)) [.string ⟨#[]⟩, .string ⟨#[]⟩, .string ⟨#[]⟩, .int .i64 0, .string ⟨#[]⟩, .int .i64 0, .string ⟨#[]⟩, .string ⟨#[]⟩] 55).ext (Ext.alloc ((((w.alloc (.cells #[.pointer (some ⟨m, 0, none⟩)] 35)).alloc (.cells #[.string role] 9)).alloc (.cells #[.string perm] 9)).alloc (.cells #[.string ⟨#[]⟩, .string ⟨#[]⟩, .string ⟨#[]⟩, .int .i64 0, .string ⟨#[]⟩, .int .i64 0, .string ⟨#[]⟩, .string ⟨#[]⟩] 55)) (.cells #[.string role, .string perm, .string owner, .int .i64 4, .string ⟨#[]⟩, .int .i64 0, .string ⟨#[]⟩, .string ⟨#[]⟩] 55))).ext (Ext.alloc _ (.cells #[.int .i64 (p : Int)] 3))
      rw [show (((w.alloc (.cells #[.pointer (some ⟨m, 0, none⟩)] 35)).alloc (.cells #[.string role] 9)).alloc (.cells #[.string perm] 9)).heap.size = w.heap.size + 3 by simp] at this
      exact this
    have hD : Blk ((((((w.alloc (.cells #[.pointer (some ⟨m, 0, none⟩)] 35)).alloc (.cells #[.string role] 9)).alloc (.cells #[.string perm] 9)).alloc (.cells #[.string ⟨#[]⟩, .string ⟨#[]⟩, .string ⟨#[]⟩, .int .i64 0, .string ⟨#[]⟩, .int .i64 0, .string ⟨#[]⟩, .string ⟨#[]⟩] 55)).alloc (.cells #[.string role, .string perm, .string owner, .int .i64 4, .string ⟨#[]⟩, .int .i64 0, .string ⟨#[]⟩, .string ⟨#[]⟩] 55)).alloc (.cells #[.int .i64 (p : Int)] 3)) (w.heap.size + 4) (D8 role perm owner 4 ⟨#[]⟩ 0 ⟨#[]⟩ ⟨#[]⟩) := by
      have := (Blk.alloc ((((w.alloc (.cells #[.pointer (some ⟨m, 0, none⟩)] 35)).alloc (.cells #[.string role] 9)).alloc (.cells #[.string perm] 9)).alloc (.cells #[.string ⟨#[]⟩, .string ⟨#[]⟩, .string ⟨#[]⟩, .int .i64 0, .string ⟨#[]⟩, .int .i64 0, .string ⟨#[]⟩, .string ⟨#[]⟩] 55)) [.string role, .string perm, .string owner, .int .i64 4, .string ⟨#[]⟩, .int .i64 0, .string ⟨#[]⟩, .string ⟨#[]⟩] 55).ext (Ext.alloc _ (.cells #[.int .i64 (p : Int)] 3))
      rw [show ((((w.alloc (.cells #[.pointer (some ⟨m, 0, none⟩)] 35)).alloc (.cells #[.string role] 9)).alloc (.cells #[.string perm] 9)).alloc (.cells #[.string ⟨#[]⟩, .string ⟨#[]⟩, .string ⟨#[]⟩, .int .i64 0, .string ⟨#[]⟩, .int .i64 0, .string ⟨#[]⟩, .string ⟨#[]⟩] 55)).heap.size = w.heap.size + 4 by simp] at this
      exact this
    have cM5 : (((((w.alloc (.cells #[.pointer (some ⟨m, 0, none⟩)] 35)).alloc (.cells #[.string role] 9)).alloc (.cells #[.string perm] 9)).alloc (.cells #[.string ⟨#[]⟩, .string ⟨#[]⟩, .string ⟨#[]⟩, .int .i64 0, .string ⟨#[]⟩, .int .i64 0, .string ⟨#[]⟩, .string ⟨#[]⟩] 55)).alloc (.cells #[.string role, .string perm, .string owner, .int .i64 4, .string ⟨#[]⟩, .int .i64 0, .string ⟨#[]⟩, .string ⟨#[]⟩] 55)).cell? ⟨w.heap.size, 0, none⟩ = some (.pointer (some ⟨m, 0, none⟩)) := by
      have := ((((Blk.alloc w [.pointer (some ⟨m, 0, none⟩)] 35).ext (Ext.alloc _ (.cells #[.string role] 9))).ext (Ext.alloc _ (.cells #[.string perm] 9))).ext (Ext.alloc _ (.cells #[.string ⟨#[]⟩, .string ⟨#[]⟩, .string ⟨#[]⟩, .int .i64 0, .string ⟨#[]⟩, .int .i64 0, .string ⟨#[]⟩, .string ⟨#[]⟩] 55))).ext (Ext.alloc _ (.cells #[.string role, .string perm, .string owner, .int .i64 4, .string ⟨#[]⟩, .int .i64 0, .string ⟨#[]⟩, .string ⟨#[]⟩] 55))
      exact this.cell rfl
    have cM : ((((((w.alloc (.cells #[.pointer (some ⟨m, 0, none⟩)] 35)).alloc (.cells #[.string role] 9)).alloc (.cells #[.string perm] 9)).alloc (.cells #[.string ⟨#[]⟩, .string ⟨#[]⟩, .string ⟨#[]⟩, .int .i64 0, .string ⟨#[]⟩, .int .i64 0, .string ⟨#[]⟩, .string ⟨#[]⟩] 55)).alloc (.cells #[.string role, .string perm, .string owner, .int .i64 4, .string ⟨#[]⟩, .int .i64 0, .string ⟨#[]⟩, .string ⟨#[]⟩] 55)).alloc (.cells #[.int .i64 (p : Int)] 3)).cell? ⟨w.heap.size, 0, none⟩ = some (.pointer (some ⟨m, 0, none⟩)) := (Ext.alloc _ _).cell cM5
    have cR : ((((((w.alloc (.cells #[.pointer (some ⟨m, 0, none⟩)] 35)).alloc (.cells #[.string role] 9)).alloc (.cells #[.string perm] 9)).alloc (.cells #[.string ⟨#[]⟩, .string ⟨#[]⟩, .string ⟨#[]⟩, .int .i64 0, .string ⟨#[]⟩, .int .i64 0, .string ⟨#[]⟩, .string ⟨#[]⟩] 55)).alloc (.cells #[.string role, .string perm, .string owner, .int .i64 4, .string ⟨#[]⟩, .int .i64 0, .string ⟨#[]⟩, .string ⟨#[]⟩] 55)).alloc (.cells #[.int .i64 (p : Int)] 3)).cell? ⟨w.heap.size + 1, 0, none⟩ = some (.string role) := by
      have := ((((Blk.alloc (w.alloc (.cells #[.pointer (some ⟨m, 0, none⟩)] 35)) [.string role] 9).ext (Ext.alloc _ (.cells #[.string perm] 9))).ext (Ext.alloc _ (.cells #[.string ⟨#[]⟩, .string ⟨#[]⟩, .string ⟨#[]⟩, .int .i64 0, .string ⟨#[]⟩, .int .i64 0, .string ⟨#[]⟩, .string ⟨#[]⟩] 55))).ext (Ext.alloc _ (.cells #[.string role, .string perm, .string owner, .int .i64 4, .string ⟨#[]⟩, .int .i64 0, .string ⟨#[]⟩, .string ⟨#[]⟩] 55))).ext (Ext.alloc _ (.cells #[.int .i64 (p : Int)] 3))
      rw [World.size_alloc] at this
      exact this.cell rfl
    have cP : ((((((w.alloc (.cells #[.pointer (some ⟨m, 0, none⟩)] 35)).alloc (.cells #[.string role] 9)).alloc (.cells #[.string perm] 9)).alloc (.cells #[.string ⟨#[]⟩, .string ⟨#[]⟩, .string ⟨#[]⟩, .int .i64 0, .string ⟨#[]⟩, .int .i64 0, .string ⟨#[]⟩, .string ⟨#[]⟩] 55)).alloc (.cells #[.string role, .string perm, .string owner, .int .i64 4, .string ⟨#[]⟩, .int .i64 0, .string ⟨#[]⟩, .string ⟨#[]⟩] 55)).alloc (.cells #[.int .i64 (p : Int)] 3)).cell? ⟨w.heap.size + 2, 0, none⟩ = some (.string perm) := by
      have := (((Blk.alloc ((w.alloc (.cells #[.pointer (some ⟨m, 0, none⟩)] 35)).alloc (.cells #[.string role] 9)) [.string perm] 9).ext (Ext.alloc _ (.cells #[.string ⟨#[]⟩, .string ⟨#[]⟩, .string ⟨#[]⟩, .int .i64 0, .string ⟨#[]⟩, .int .i64 0, .string ⟨#[]⟩, .string ⟨#[]⟩] 55))).ext (Ext.alloc _ (.cells #[.string role, .string perm, .string owner, .int .i64 4, .string ⟨#[]⟩, .int .i64 0, .string ⟨#[]⟩, .string ⟨#[]⟩] 55))).ext (Ext.alloc _ (.cells #[.int .i64 (p : Int)] 3))
      rw [World.size_alloc, World.size_alloc] at this
      exact this.cell rfl
    have c5 : ((((((w.alloc (.cells #[.pointer (some ⟨m, 0, none⟩)] 35)).alloc (.cells #[.string role] 9)).alloc (.cells #[.string perm] 9)).alloc (.cells #[.string ⟨#[]⟩, .string ⟨#[]⟩, .string ⟨#[]⟩, .int .i64 0, .string ⟨#[]⟩, .int .i64 0, .string ⟨#[]⟩, .string ⟨#[]⟩] 55)).alloc (.cells #[.string role, .string perm, .string owner, .int .i64 4, .string ⟨#[]⟩, .int .i64 0, .string ⟨#[]⟩, .string ⟨#[]⟩] 55)).alloc (.cells #[.int .i64 (p : Int)] 3)).cell? ⟨w.heap.size + 5, 0, none⟩ = some (.int .i64 (p : Int)) := by
      have := Blk.alloc (((((w.alloc (.cells #[.pointer (some ⟨m, 0, none⟩)] 35)).alloc (.cells #[.string role] 9)).alloc (.cells #[.string perm] 9)).alloc (.cells #[.string ⟨#[]⟩, .string ⟨#[]⟩, .string ⟨#[]⟩, .int .i64 0, .string ⟨#[]⟩, .int .i64 0, .string ⟨#[]⟩, .string ⟨#[]⟩] 55)).alloc (.cells #[.string role, .string perm, .string owner, .int .i64 4, .string ⟨#[]⟩, .int .i64 0, .string ⟨#[]⟩, .string ⟨#[]⟩] 55)) [.int .i64 (p : Int)] 3
      rw [show (((((w.alloc (.cells #[.pointer (some ⟨m, 0, none⟩)] 35)).alloc (.cells #[.string role] 9)).alloc (.cells #[.string perm] 9)).alloc (.cells #[.string ⟨#[]⟩, .string ⟨#[]⟩, .string ⟨#[]⟩, .int .i64 0, .string ⟨#[]⟩, .int .i64 0, .string ⟨#[]⟩, .string ⟨#[]⟩] 55)).alloc (.cells #[.string role, .string perm, .string owner, .int .i64 4, .string ⟨#[]⟩, .int .i64 0, .string ⟨#[]⟩, .string ⟨#[]⟩] 55)).heap.size = w.heap.size + 5 by simp] at this
      exact this.cell rfl
    have k0 : (((((w.alloc (.cells #[.pointer (some ⟨m, 0, none⟩)] 35)).alloc (.cells #[.string role] 9)).alloc (.cells #[.string perm] 9)).alloc (.cells #[.string ⟨#[]⟩, .string ⟨#[]⟩, .string ⟨#[]⟩, .int .i64 0, .string ⟨#[]⟩, .int .i64 0, .string ⟨#[]⟩, .string ⟨#[]⟩] 55)).alloc (.cells #[.string role, .string perm, .string owner, .int .i64 4, .string ⟨#[]⟩, .int .i64 0, .string ⟨#[]⟩, .string ⟨#[]⟩] 55)).cell? ⟨m, 0, none⟩ = some (.pointer (some ⟨T, 0, none⟩)) := (hB.ext x5).cell rfl
    have kT : (((((w.alloc (.cells #[.pointer (some ⟨m, 0, none⟩)] 35)).alloc (.cells #[.string role] 9)).alloc (.cells #[.string perm] 9)).alloc (.cells #[.string ⟨#[]⟩, .string ⟨#[]⟩, .string ⟨#[]⟩, .int .i64 0, .string ⟨#[]⟩, .int .i64 0, .string ⟨#[]⟩, .string ⟨#[]⟩] 55)).alloc (.cells #[.string role, .string perm, .string owner, .int .i64 4, .string ⟨#[]⟩, .int .i64 0, .string ⟨#[]⟩, .string ⟨#[]⟩] 55)).cell? ⟨T, 1, none⟩ = some (.map (some bp)) := (t1.ext x5).cell rfl
    have hlk := (t2.ext x5).pos hoo hp
    have HP : Hid (idxTo (os.map Org.id) (os.map Org.id).length owner = some p) := hp
    have e1 : owner.toList.isEmpty = false := by
      rcases str_empty owner with ⟨_, h⟩ | ⟨h, _⟩
      · exact absurd h.out he
      · exact h
    clear hp hB hT hR' hmr hSh hgr hgS hgM hma t1 t2 t3 t4 t5 t6
    refine (callsIn_wide (n := 5)).1 ?_
    refine callsIn_of_wp_marks Try.func45 rfl trivial ?_ rfl
    simp only [Try.ntmps45, List.size_toArray, List.length_cons, List.length_nil, Nat.reduceAdd, Nat.reduceSub, Array.replicate_succ, Array.replicate_zero, List.push_toArray, List.append_toArray, List.nil_append, List.cons_append]
    repeat (first | (exact decide_t5 m w.heap.size p os rs ss an role perm owner w _ hm hor hop hno hnr hns hnp hends hv he HP.out rfl x6 hml cM cR cP c5 hR hD) | go_values | gi_guarded | gi_step | gi_upon | (simp only [Int.not_lt, Int.not_le] at *; go_simp))

set_option maxRecDepth 100000 in
theorem newAccess_any (m : Nat) (user role org : ByteArray) (w : World) : Calls Try.prog 12 #[.pointer (some ⟨m, 0, none⟩), .string user, .string role, .string org] w fun e w' =>
    e = .returned (.pointer (some ⟨w.heap.size, 0, none⟩)) ∧ w.alloc (.cells #[.pointer (some ⟨m, 0, none⟩), .string user, .string role, .string org] 123) = w' := by
  go_enter Try.func12, Try.ntmps12
  go_wp2
  go_ret
  exact ⟨rfl, rfl⟩


end Go.Proofs.Qxb6609292a
