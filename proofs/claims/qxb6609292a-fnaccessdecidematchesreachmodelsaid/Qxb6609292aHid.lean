/-
  For seat b6609292a: one block of the world hidden: what is told of the others stays told while that block is written.
-/
import Derived.Test.Qxb6609292aWorldA
set_option linter.unusedVariables false
set_option linter.unusedSimpArgs false
namespace Go.Proofs.Qxb6609292a
open Go.RowKit Go.Maps

def hid (w : World) (W : Nat) : World := { w with heap := w.heap.setIfInBounds W (.cells #[] 0) }
theorem hid_size (w : World) (W : Nat) : (hid w W).heap.size = w.heap.size := by simp [hid]
theorem hid_ne (w : World) (W k : Nat) (h : k ≠ W) : (hid w W).heap[k]? = w.heap[k]? := by
  simp only [hid]; rw [Array.getElem?_setIfInBounds_ne (fun e => h e.symm)]
theorem hid_eq (w : World) (W : Nat) (h : W < w.heap.size) : (hid w W).heap[W]? = some (.cells #[] 0) := by
  simp only [hid]; rw [Array.getElem?_setIfInBounds_self_of_lt h]
theorem hid_grown {w w' : World} {W : Nat} (hW : W < w.heap.size) (hg : w.grownBy w' (some W)) : Ext (hid w W) (hid w' W) := by
  refine ⟨hg.os, hg.tape, hg.output, by rw [hid_size, hid_size]; exact hg.size, fun k hk => ?_⟩
  rw [hid_size] at hk
  by_cases e : k = W
  · rw [e, hid_eq _ _ hW, hid_eq _ _ (Nat.lt_of_lt_of_le hW hg.size)]
  · rw [hid_ne _ _ _ e, hid_ne _ _ _ e, hg.block k hk (fun e' => e (Option.some.inj e'))]
theorem hid_ext {w w' : World} {W : Nat} (hW : W < w.heap.size) (he : Ext w w') : Ext (hid w W) (hid w' W) :=
  hid_grown hW ⟨he.os, he.tape, he.output, Below.size he, fun k hk _ => Below.block he k hk⟩
theorem hid_cell {w : World} {W : Nat} {b o : Nat} {v : Value} (h : (hid w W).cell? ⟨b, o, none⟩ = some v) : w.cell? ⟨b, o, none⟩ = some v := by
  by_cases e : b = W
  · subst e
    have hlt := cell_lt h
    rw [hid_size] at hlt
    simp [World.cell?, hid_eq _ _ hlt] at h
  · simp only [World.cell?, hid_ne _ _ _ e] at h ⊢; exact h
theorem cell_hid {w : World} {W : Nat} {b o : Nat} {v : Value} (h : w.cell? ⟨b, o, none⟩ = some v) (e : b ≠ W) : (hid w W).cell? ⟨b, o, none⟩ = some v := by
  simp only [World.cell?, hid_ne _ _ _ e] at h ⊢; exact h
theorem RowsAt.unhid {w : World} {W : Nat} {v : Value} {k : Nat} {xs : List (List Value)} (h : RowsAt (hid w W) v k xs) : RowsAt w v k xs := by
  obtain ⟨ao, cap, hv, hc, h2⟩ := h
  refine ⟨ao, cap, hv, hc, fun hne => ?_⟩
  obtain ⟨b, off, ha, h3⟩ := h2 hne
  exact ⟨b, off, ha, fun i x hx j u hu => hid_cell (h3 i x hx j u hu)⟩
theorem OrgsAt.unhid {w : World} {W : Nat} {v : Value} {l : List Org} (h : OrgsAt (hid w W) v l) : OrgsAt w v l := ⟨h.1.unhid, h.2⟩
theorem StrsAt.unhid {w : World} {W : Nat} {v : Value} {l : List ByteArray} (h : StrsAt (hid w W) v l) : StrsAt w v l := ⟨h.1.unhid, h.2⟩
theorem UsersAt.unhid {w : World} {W : Nat} {v : Value} {l : List User} (h : UsersAt (hid w W) v l) : UsersAt w v l :=
  ⟨h.1.unhid, fun r hr => ⟨(h.2 r hr).1, (h.2 r hr).2.unhid⟩⟩
theorem SharesAt.unhid {w : World} {W : Nat} {v : Value} {l : List Share} (h : SharesAt (hid w W) v l) : SharesAt w v l :=
  ⟨h.1.unhid, fun r hr => ⟨(h.2 r hr).1, (h.2 r hr).2.1, (h.2 r hr).2.2.1, (h.2 r hr).2.2.2.1, (h.2 r hr).2.2.2.2.unhid⟩⟩
theorem Blk.hid {w : World} {W g : Nat} {xs : List Value} (h : Blk w g xs) (e : g ≠ W) : Blk (hid w W) g xs := by
  obtain ⟨T, h⟩ := h; exact ⟨T, by rw [hid_ne _ _ _ e]; exact h⟩
theorem SM.hid {w : World} {W : Nat} {E : TypeId} {b n : Nat} {f : ByteArray → Option Value} (h : SM w E b n f) (e : b ≠ W) : SM (hid w W) E b n f := by
  obtain ⟨D, ⟨es, clock, hb, r⟩, h2⟩ := h; exact ⟨D, ⟨es, clock, by rw [hid_ne _ _ _ e]; exact hb, r⟩, h2⟩
theorem SM.unhid {w : World} {W : Nat} {E : TypeId} {b n : Nat} {f : ByteArray → Option Value} (h : SM (Qxb6609292a.hid w W) E b n f) : SM w E b n f := by
  obtain ⟨D, ⟨es, clock, hb, r⟩, h2⟩ := h
  have e : b ≠ W := by
    intro e
    subst e
    have hlt : b < (Qxb6609292a.hid w b).heap.size := (Array.getElem?_eq_some_iff.1 hb).1
    rw [hid_size] at hlt
    rw [hid_eq _ _ hlt] at hb
    cases hb
  exact ⟨D, ⟨es, clock, by rw [← hid_ne _ _ _ e]; exact hb, r⟩, h2⟩

/-! ### roles whose grants lie in a map -/
def permTo (gs : List Grant) : Nat → ByteArray → Option Int
  | 0, _ => none
  | k + 1, s => if (gs[k]?).map Grant.name = some s then (gs[k]?).map Grant.scope else permTo gs k s
def permF (gs : List Grant) (k : Nat) : ByteArray → Option Value := fun s => (permTo gs k s).map iI
theorem permF_succ (gs : List Grant) (k : Nat) (g : Grant) (h : gs[k]? = some g) : upd (permF gs k) g.name (iI g.scope) = permF gs (k + 1) := by
  funext t
  show (if t = g.name then some (iI g.scope) else (permTo gs k t).map iI) = (if (gs[k]?).map Grant.name = some t then (gs[k]?).map Grant.scope else permTo gs k t).map iI
  rw [h]
  by_cases e : t = g.name
  · rw [if_pos e, if_pos (by rw [e]; rfl)]; rfl
  · rw [if_neg e, if_neg (by intro h2; exact e (Option.some.inj h2).symm)]
/-- The map that holds a role's grants. -/
def MapAt (w : World) (mv : Value) (gs : List Grant) : Prop := (mv = .map none ∧ gs = []) ∨ ∃ b, mv = .map (some b) ∧ SM w 53 b gs.length (permF gs gs.length)
theorem plain53 (z : Int) (h : wf64 z) : plainElem (H := Unit) Try.prog 53 (iI z) = some (.lit (.int .i64 z), []) :=
  plainElem_int Try.underlying53 (by unfold wf64 at h; simp [Lit.wf, IntKind.min, IntKind.max, IntKind.signed, IntKind.bits]; omega)
theorem zero53 (w : World) : (zeroValue 53).run Try.prog w = .ok (.int .i64 0) w := by kernel_rfl
theorem MapAt.ext {w w' : World} {mv : Value} {gs : List Grant} (h : MapAt w mv gs) (he : Ext w w') : MapAt w' mv gs := by
  rcases h with h | ⟨b, hb, hs⟩
  · exact Or.inl h
  · exact Or.inr ⟨b, hb, hs.ext he⟩
theorem MapAt.unhid {w : World} {W : Nat} {mv : Value} {gs : List Grant} (h : MapAt (hid w W) mv gs) : MapAt w mv gs := by
  rcases h with h | ⟨b, hb, hs⟩
  · exact Or.inl h
  · exact Or.inr ⟨b, hb, hs.unhid⟩
/-- Roles whose fourth cell holds a map of the grants. -/
def RolesM (w : World) (v : Value) (l : List Role) : Prop := RowsAt w v 4 (l.map Role.row) ∧ ∀ r ∈ l, okStr r.id ∧ okStr r.name ∧ okStr r.org ∧ (∀ g ∈ r.grants, okStr g.name ∧ wf64 g.scope) ∧ MapAt w r.gv r.grants
theorem RolesM.ext {w w' : World} {v : Value} {l : List Role} (h : RolesM w v l) (he : Ext w w') : RolesM w' v l :=
  ⟨h.1.ext he, fun r hr => ⟨(h.2 r hr).1, (h.2 r hr).2.1, (h.2 r hr).2.2.1, (h.2 r hr).2.2.2.1, (h.2 r hr).2.2.2.2.ext he⟩⟩
theorem RolesM.unhid {w : World} {W : Nat} {v : Value} {l : List Role} (h : RolesM (hid w W) v l) : RolesM w v l :=
  ⟨h.1.unhid, fun r hr => ⟨(h.2 r hr).1, (h.2 r hr).2.1, (h.2 r hr).2.2.1, (h.2 r hr).2.2.2.1, (h.2 r hr).2.2.2.2.unhid⟩⟩
def Role.core (r : Role) : ByteArray × ByteArray × ByteArray × List Grant := (r.id, r.name, r.org, r.grants)
def User.core (u : User) : ByteArray × List ByteArray := (u.id, u.roles)
def Share.core (s : Share) : ByteArray × ByteArray × ByteArray × List ByteArray × ByteArray := (s.id, s.owner, s.dest, s.perms, s.by_)
end Go.Proofs.Qxb6609292a
