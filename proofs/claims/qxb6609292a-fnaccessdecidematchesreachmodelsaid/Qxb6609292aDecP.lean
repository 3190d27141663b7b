/-
  For seat b6609292a: what Model.Decide answers; WALKS of Model.reached and of Decide where the owner is no organization.
-/
import Derived.Test.Qxb6609292aIter
set_option linter.unusedVariables false
set_option linter.unusedSimpArgs false
namespace Go.Proofs.Qxb6609292a
open Go.RowKit Go.Maps

def E0 : ByteArray := ⟨#[]⟩
/-- What settles it, where it is found. -/
def FinR (rs : List Role) (ss : List Share) (role perm : ByteArray) (x : Vis) (g : ByteArray) (sc : Int) (sh st : ByteArray) : Prop :=
  (x.2.1 = 2 ∧ g = E0 ∧ sc = 0 ∧ ∃ (s : Nat) (s' : Share), x.2.2 = (s : Int) ∧ ss[s]? = some s' ∧ sh = s'.id ∧ st = s'.dest) ∨
  ((x.2.1 = 1 ∨ x.2.1 = 3) ∧ sh = E0 ∧ st = E0 ∧ ∃ k r, idxTo (rs.map Role.id) (rs.map Role.id).length role = some k ∧ rs[k]? = some r ∧ g = r.org ∧ sc = (permTo r.grants r.grants.length perm).getD 0)
def DecR (os : List Org) (rs : List Role) (ss : List Share) (an : List ByteArray) (role perm owner : ByteArray) (b : Int) (g : ByteArray) (sc : Int) (sh st : ByteArray) : Prop :=
  (owner = E0 ∧ b = 5 ∧ g = E0 ∧ sc = 0 ∧ sh = E0 ∧ st = E0) ∨
  (owner ≠ E0 ∧ idxTo (os.map Org.id) (os.map Org.id).length owner = none ∧ b = 4 ∧ g = E0 ∧ sc = 0 ∧ sh = E0 ∧ st = E0) ∨
  (owner ≠ E0 ∧ ∃ p, idxTo (os.map Org.id) (os.map Org.id).length owner = some p ∧
    ((∃ xs, VisS os rs ss an role perm xs ∧ (∀ x ∈ xs, x.1 ≠ p) ∧ b = 4 ∧ g = E0 ∧ sc = 0 ∧ sh = E0 ∧ st = E0) ∨
     (∃ pre x, VisP os rs ss an role perm (pre ++ [x]) ∧ (∀ y ∈ pre, y.1 ≠ p) ∧ x.1 = p ∧ b = x.2.1 ∧ FinR rs ss role perm x g sc sh st)))
def DecPost (os : List Org) (rs : List Role) (ss : List Share) (an : List ByteArray) (role perm owner : ByteArray) (w : World) : Ending → World → Prop := fun e w' =>
  ∃ b g sc sh st, Hid (DecR os rs ss an role perm owner b g sc sh st) ∧ e = .returned (.agg #[.string role, .string perm, .string owner, .int .i64 b, .string g, .int .i64 sc, .string sh, .string st]) ∧ Ext w w'

set_option maxRecDepth 100000 in
theorem reached_any (m : Nat) (role perm : ByteArray) (w : World) : Calls Try.prog 66 #[.pointer (some ⟨m, 0, none⟩), .string role, .string perm] w fun e w' =>
    e = .returned (.func (.func 70) #[] #[.pointer (some ⟨w.heap.size, 0, none⟩), .pointer (some ⟨w.heap.size + 1, 0, none⟩), .pointer (some ⟨w.heap.size + 2, 0, none⟩)]) ∧ ((w.alloc (.cells #[.pointer (some ⟨m, 0, none⟩)] 35)).alloc (.cells #[.string role] 9)).alloc (.cells #[.string perm] 9) = w' := by
  go_enter Try.func66, Try.ntmps66
  go_wp2
  go_ret
  exact ⟨rfl, rfl⟩

def D8 (a b c : ByteArray) (n : Int) (g : ByteArray) (sc : Int) (sh st : ByteArray) : List Value := [.string a, .string b, .string c, .int .i64 n, .string g, .int .i64 sc, .string sh, .string st]
theorem Try.info55 : (Try.prog.info? 55).map (·.size) = some 8 := by kernel_rfl
theorem Try.info52 : (Try.prog.info? 52).map (·.size) = some 1 := by kernel_rfl
theorem d8_cells {w : World} {g : Nat} {a b c : ByteArray} {n : Int} {gg : ByteArray} {sc : Int} {sh st : ByteArray} (h : Blk w g (D8 a b c n gg sc sh st)) : w.cell? ⟨g, 0, none⟩ = some (.string a) ∧ w.cell? ⟨g, 1, none⟩ = some (.string b) ∧ w.cell? ⟨g, 2, none⟩ = some (.string c) ∧ w.cell? ⟨g, 3, none⟩ = some (.int .i64 n) ∧ w.cell? ⟨g, 4, none⟩ = some (.string gg) ∧ w.cell? ⟨g, 5, none⟩ = some (.int .i64 sc) ∧ w.cell? ⟨g, 6, none⟩ = some (.string sh) ∧ w.cell? ⟨g, 7, none⟩ = some (.string st) :=
  ⟨h.cell rfl, h.cell rfl, h.cell rfl, h.cell rfl, h.cell rfl, h.cell rfl, h.cell rfl, h.cell rfl⟩

set_option maxRecDepth 100000 in
set_option maxHeartbeats 3200000 in
theorem decide_none (m : Nat) (os : List Org) (rs : List Role) (ss : List Share) (an : List ByteArray) (role perm owner : ByteArray) (w : World) (h : ModelAt w m os rs ss an) (hoo : okStr owner) (hno : owner = E0 ∨ idxTo (os.map Org.id) (os.map Org.id).length owner = none) :
    Calls Try.prog 45 #[.pointer (some ⟨m, 0, none⟩), .string role, .string perm, .string owner] w (DecPost os rs ss an role perm owner w) := by
  obtain ⟨T, bO, vR, bR, vU, bU, vS, gS, gM, vc, vd, bA, S, M, Nr, Na, hB, hT, hR', hmr, hSh, hgr, hgS, hgM, hma⟩ := h
  obtain ⟨gi, bp, gp, tS, tM, S1, M1, sv, rv, Nn, t1, t2, t3, t4, t5, t6⟩ := hT.ex
  have x3 : Ext w (((w.alloc (.cells #[.pointer (some ⟨m, 0, none⟩)] 35)).alloc (.cells #[.string role] 9)).alloc (.cells #[.string perm] 9)) := ((Ext.alloc _ _).trans (Ext.alloc _ _)).trans (Ext.alloc _ _)
  have x4 : Ext w ((((w.alloc (.cells #[.pointer (some ⟨m, 0, none⟩)] 35)).alloc (.cells #[.string role] 9)).alloc (.cells #[.string perm] 9)).alloc (.cells #[.string ⟨#[]⟩, .string ⟨#[]⟩, .string ⟨#[]⟩, .int .i64 0, .string ⟨#[]⟩, .int .i64 0, .string ⟨#[]⟩, .string ⟨#[]⟩] 55)) := x3.trans (Ext.alloc _ _)
  have x5 : Ext w (((((w.alloc (.cells #[.pointer (some ⟨m, 0, none⟩)] 35)).alloc (.cells #[.string role] 9)).alloc (.cells #[.string perm] 9)).alloc (.cells #[.string ⟨#[]⟩, .string ⟨#[]⟩, .string ⟨#[]⟩, .int .i64 0, .string ⟨#[]⟩, .int .i64 0, .string ⟨#[]⟩, .string ⟨#[]⟩] 55)).alloc (.cells #[.string role, .string perm, .string owner, .int .i64 4, .string ⟨#[]⟩, .int .i64 0, .string ⟨#[]⟩, .string ⟨#[]⟩] 55)) := x4.trans (Ext.alloc _ _)
  have hR : Blk (((((w.alloc (.cells #[.pointer (some ⟨m, 0, none⟩)] 35)).alloc (.cells #[.string role] 9)).alloc (.cells #[.string perm] 9)).alloc (.cells #[.string ⟨#[]⟩, .string ⟨#[]⟩, .string ⟨#[]⟩, .int .i64 0, .string ⟨#[]⟩, .int .i64 0, .string ⟨#[]⟩, .string ⟨#[]⟩] 55)).alloc (.cells #[.string role, .string perm, .string owner, .int .i64 4, .string ⟨#[]⟩, .int .i64 0, .string ⟨#[]⟩, .string ⟨#[]⟩] 55)) (w.heap.size + 3) [.string ⟨#[]⟩, .string ⟨#[]⟩, .string ⟨#[]⟩, .int .i64 0, .string ⟨#[]⟩, .int .i64 0, .string ⟨#[]⟩, .string ⟨#[]⟩] := by
    have := (Blk.alloc (((w.alloc (.cells #[.pointer (some ⟨m, 0, none⟩)] 35)).alloc (.cells #[.string role] 9)).alloc (.cells #[.string perm] 9)) [.string ⟨#[]⟩, .string ⟨#[]⟩, .string ⟨#[]⟩, .int .i64 0, .string ⟨#[]⟩, .int .i64 0, .string ⟨#[]⟩, .string ⟨#[]⟩] 55).ext (Ext.alloc ((((w.alloc (.cells #[.pointer (some ⟨m, 0, none⟩)] 35)).alloc (.cells #[.string role] 9)).alloc (.cells #[.string perm] 9)).alloc (.cells #[.string ⟨#[]⟩, .string ⟨#[]⟩, .string ⟨#[]⟩, .int .i64 0, .string ⟨#[]⟩, .int .i64 0, .string ⟨#[]⟩, .string ⟨#[]⟩] 55)) (.cells #[.string role, .string perm, .string owner, .int .i64 4, .string ⟨#[]⟩, .int .i64 0, .string ⟨#[]⟩, .string ⟨#[]⟩] 55))
    simpa using this
  have hD : Blk (((((w.alloc (.cells #[.pointer (some ⟨m, 0, none⟩)] 35)).alloc (.cells #[.string role] 9)).alloc (.cells #[.string perm] 9)).alloc (.cells #[.string ⟨#[]⟩, .string ⟨#[]⟩, .string ⟨#[]⟩, .int .i64 0, .string ⟨#[]⟩, .int .i64 0, .string ⟨#[]⟩, .string ⟨#[]⟩] 55)).alloc (.cells #[.string role, .string perm, .string owner, .int .i64 4, .string ⟨#[]⟩, .int .i64 0, .string ⟨#[]⟩, .string ⟨#[]⟩] 55)) (w.heap.size + 4) (D8 role perm owner 4 ⟨#[]⟩ 0 ⟨#[]⟩ ⟨#[]⟩) := by
    have := Blk.alloc ((((w.alloc (.cells #[.pointer (some ⟨m, 0, none⟩)] 35)).alloc (.cells #[.string role] 9)).alloc (.cells #[.string perm] 9)).alloc (.cells #[.string ⟨#[]⟩, .string ⟨#[]⟩, .string ⟨#[]⟩, .int .i64 0, .string ⟨#[]⟩, .int .i64 0, .string ⟨#[]⟩, .string ⟨#[]⟩] 55)) [.string role, .string perm, .string owner, .int .i64 4, .string ⟨#[]⟩, .int .i64 0, .string ⟨#[]⟩, .string ⟨#[]⟩] 55
    rw [show ((((w.alloc (.cells #[.pointer (some ⟨m, 0, none⟩)] 35)).alloc (.cells #[.string role] 9)).alloc (.cells #[.string perm] 9)).alloc (.cells #[.string ⟨#[]⟩, .string ⟨#[]⟩, .string ⟨#[]⟩, .int .i64 0, .string ⟨#[]⟩, .int .i64 0, .string ⟨#[]⟩, .string ⟨#[]⟩] 55)).heap.size = w.heap.size + 4 by simp] at this
    exact this
  have cM : (((((w.alloc (.cells #[.pointer (some ⟨m, 0, none⟩)] 35)).alloc (.cells #[.string role] 9)).alloc (.cells #[.string perm] 9)).alloc (.cells #[.string ⟨#[]⟩, .string ⟨#[]⟩, .string ⟨#[]⟩, .int .i64 0, .string ⟨#[]⟩, .int .i64 0, .string ⟨#[]⟩, .string ⟨#[]⟩] 55)).alloc (.cells #[.string role, .string perm, .string owner, .int .i64 4, .string ⟨#[]⟩, .int .i64 0, .string ⟨#[]⟩, .string ⟨#[]⟩] 55)).cell? ⟨w.heap.size, 0, none⟩ = some (.pointer (some ⟨m, 0, none⟩)) := by
    have := ((((Blk.alloc w [.pointer (some ⟨m, 0, none⟩)] 35).ext (Ext.alloc _ (.cells #[.string role] 9))).ext (Ext.alloc _ (.cells #[.string perm] 9))).ext (Ext.alloc _ (.cells #[.string ⟨#[]⟩, .string ⟨#[]⟩, .string ⟨#[]⟩, .int .i64 0, .string ⟨#[]⟩, .int .i64 0, .string ⟨#[]⟩, .string ⟨#[]⟩] 55))).ext (Ext.alloc _ (.cells #[.string role, .string perm, .string owner, .int .i64 4, .string ⟨#[]⟩, .int .i64 0, .string ⟨#[]⟩, .string ⟨#[]⟩] 55))
    exact this.cell rfl
  have k0 : (((((w.alloc (.cells #[.pointer (some ⟨m, 0, none⟩)] 35)).alloc (.cells #[.string role] 9)).alloc (.cells #[.string perm] 9)).alloc (.cells #[.string ⟨#[]⟩, .string ⟨#[]⟩, .string ⟨#[]⟩, .int .i64 0, .string ⟨#[]⟩, .int .i64 0, .string ⟨#[]⟩, .string ⟨#[]⟩] 55)).alloc (.cells #[.string role, .string perm, .string owner, .int .i64 4, .string ⟨#[]⟩, .int .i64 0, .string ⟨#[]⟩, .string ⟨#[]⟩] 55)).cell? ⟨m, 0, none⟩ = some (.pointer (some ⟨T, 0, none⟩)) := (hB.ext x5).cell rfl
  have kT : (((((w.alloc (.cells #[.pointer (some ⟨m, 0, none⟩)] 35)).alloc (.cells #[.string role] 9)).alloc (.cells #[.string perm] 9)).alloc (.cells #[.string ⟨#[]⟩, .string ⟨#[]⟩, .string ⟨#[]⟩, .int .i64 0, .string ⟨#[]⟩, .int .i64 0, .string ⟨#[]⟩, .string ⟨#[]⟩] 55)).alloc (.cells #[.string role, .string perm, .string owner, .int .i64 4, .string ⟨#[]⟩, .int .i64 0, .string ⟨#[]⟩, .string ⟨#[]⟩] 55)).cell? ⟨T, 1, none⟩ = some (.map (some bp)) := (t1.ext x5).cell rfl
  have t2' := t2.ext x5
  unfold DecPost
  rcases str_empty owner with ⟨e1, e2⟩ | ⟨e1, e2⟩
  · have HO : Hid (DecR os rs ss an role perm owner 5 ⟨#[]⟩ 0 ⟨#[]⟩ ⟨#[]⟩) := Or.inl ⟨e2.out, rfl, rfl, rfl, rfl, rfl⟩
    clear hno hB hT hR' t1 t2 t3 t4 t5 t6
    go_enter Try.func45, Try.ntmps45
    go_wp2_with (first
      | (refine wpList_st1 _ rfl 52 (.tmp 21) _ rfl (w.heap.size + 4) 3 _ (.int .i64 5) rfl hD rfl Try.info52 (by simp [D8]) rfl ?_; intro w6 hD6' hg6; have hD6 : Blk w6 (w.heap.size + 4) (D8 role perm owner 5 ⟨#[]⟩ 0 ⟨#[]⟩ ⟨#[]⟩) := hD6'; have hR6 := hR.kept hg6 (sne (by omega)); have x6 := ext_st x5 hg6 (by omega); obtain ⟨d0, d1, d2, d3, d4, d5, d6, d7⟩ := d8_cells hD6; clear hD6')
      | (refine wpList_st w6 rfl 55 (.tmp 8) (.tmp 22) rfl (w.heap.size + 3) 0 _ (.agg #[.string role, .string perm, .string owner, .int .i64 5, .string ⟨#[]⟩, .int .i64 0, .string ⟨#[]⟩, .string ⟨#[]⟩]) (D8 role perm owner 5 ⟨#[]⟩ 0 ⟨#[]⟩ ⟨#[]⟩) rfl hR6 rfl rfl Try.info55 (by simp [D8]) (by simp [D8, Value.oneCell']) ?_; intro w7 hR7' hg7; have hR7 : Blk w7 (w.heap.size + 3) (D8 role perm owner 5 ⟨#[]⟩ 0 ⟨#[]⟩ ⟨#[]⟩) := hR7'; obtain ⟨q0, q1, q2, q3, q4, q5, q6, q7⟩ := d8_cells hR7))
    refine bodyPost_ret (v := .agg #[.string role, .string perm, .string owner, .int .i64 5, .string ⟨#[]⟩, .int .i64 0, .string ⟨#[]⟩, .string ⟨#[]⟩]) (by simp [results, Try.results45, go_sem, q0, q1, q2, q3, q4, q5, q6, q7]) rfl ⟨5, _, _, _, _, HO, rfl, ext_st x6 hg7 (by omega)⟩
  · rcases hno with hno | hno
    · exact absurd hno e2
    have HO : Hid (DecR os rs ss an role perm owner 4 ⟨#[]⟩ 0 ⟨#[]⟩ ⟨#[]⟩) := Or.inr (Or.inl ⟨e2, hno, rfl, rfl, rfl, rfl, rfl⟩)
    have hlk := t2'.nopos hoo hno
    have xa := Ext.alloc (((((w.alloc (.cells #[.pointer (some ⟨m, 0, none⟩)] 35)).alloc (.cells #[.string role] 9)).alloc (.cells #[.string perm] 9)).alloc (.cells #[.string ⟨#[]⟩, .string ⟨#[]⟩, .string ⟨#[]⟩, .int .i64 0, .string ⟨#[]⟩, .int .i64 0, .string ⟨#[]⟩, .string ⟨#[]⟩] 55)).alloc (.cells #[.string role, .string perm, .string owner, .int .i64 4, .string ⟨#[]⟩, .int .i64 0, .string ⟨#[]⟩, .string ⟨#[]⟩] 55)) (.cells #[.int .i64 0] 3)
    have hR6 := hR.ext xa
    have hD6 := hD.ext xa
    obtain ⟨d0, d1, d2, d3, d4, d5, d6, d7⟩ := d8_cells hD6
    clear hno hB hT hR' t1 t2 t3 t4 t5 t6
    go_enter Try.func45, Try.ntmps45
    go_wp2_with (refine wpList_st _ rfl 55 (.tmp 8) (.tmp 37) rfl (w.heap.size + 3) 0 _ (.agg #[.string role, .string perm, .string owner, .int .i64 4, .string ⟨#[]⟩, .int .i64 0, .string ⟨#[]⟩, .string ⟨#[]⟩]) (D8 role perm owner 4 ⟨#[]⟩ 0 ⟨#[]⟩ ⟨#[]⟩) rfl hR6 rfl rfl Try.info55 (by simp [D8]) (by simp [D8, Value.oneCell']) ?_; intro w7 hR7' hg7; have hR7 : Blk w7 (w.heap.size + 3) (D8 role perm owner 4 ⟨#[]⟩ 0 ⟨#[]⟩ ⟨#[]⟩) := hR7'; obtain ⟨q0, q1, q2, q3, q4, q5, q6, q7⟩ := d8_cells hR7)
    refine bodyPost_ret (v := .agg #[.string role, .string perm, .string owner, .int .i64 4, .string ⟨#[]⟩, .int .i64 0, .string ⟨#[]⟩, .string ⟨#[]⟩]) (by simp [results, Try.results45, go_sem, q0, q1, q2, q3, q4, q5, q6, q7]) rfl ⟨4, _, _, _, _, HO, rfl, ext_st (x5.trans xa) hg7 (by omega)⟩
end Go.Proofs.Qxb6609292a
