/-
  For the walk of toWorld, seat b6609292a: two blocks hidden; a row of cells stored one after another; a role's map in a block of its own; what toWorld hands back.
-/
import Derived.Test.Qxb6609292aWorldB
import Derived.Deep.RegionHeld3
set_option linter.unusedVariables false
set_option linter.unusedSimpArgs false
namespace Go.Proofs.Qxb6609292a
open Go.RowKit Go.Maps

theorem sne {a b : Nat} (h : a ≠ b) : some a ≠ some b := fun e => h (Option.some.inj e)
theorem far1 {w : World} {a : Addr} {v : Value} {b o : Nat} {u : Option Value} (h : b ≠ a.block) (hc : w.cell? ⟨b, o, none⟩ = u) : (w.setCell a v).cell? ⟨b, o, none⟩ = u := by
  rw [← hc]
  exact World.cell?_of_block (w := w) (a := ⟨b, o, none⟩) (Below.heap_setCell w a v b h)
theorem neqS (t e : TypeId) (h : Try.prog.underlying t = some (.slice e)) (W : World) (a : Option Addr) (l c : Nat) : (binOp .neq t (.slice a l c) (.slice none 0 0)).run Try.prog W = .ok (.bool (!a.isNone)) W := Go.run_neq_slice_nil W t e a l c h

/-! ### two blocks hidden -/
def h2 (N : Nat) (w : World) : World := hid (hid w (N + 1)) N
theorem hid_grownBy {w w' : World} {W : Nat} {row : Option Nat} (hW : W < w.heap.size) (hg : w.grownBy w' row) : (hid w W).grownBy (hid w' W) row := by
  refine ⟨hg.os, hg.tape, hg.output, by rw [hid_size, hid_size]; exact hg.size, fun k hk hne => ?_⟩
  rw [hid_size] at hk
  by_cases e : k = W
  · rw [e, hid_eq _ _ hW, hid_eq _ _ (Nat.lt_of_lt_of_le hW hg.size)]
  · rw [hid_ne _ _ _ e, hid_ne _ _ _ e, hg.block k hk hne]
theorem h2_ext {N : Nat} {w w' : World} (hN : N + 1 < w.heap.size) (he : Ext w w') : Ext (h2 N w) (h2 N w') :=
  hid_ext (by rw [hid_size]; omega) (hid_ext hN he)
theorem h2_stW {N : Nat} {w w' : World} (hN : N + 1 < w.heap.size) (hg : w.grownBy w' (some (N + 1))) : Ext (h2 N w) (h2 N w') :=
  hid_ext (by rw [hid_size]; omega) (hid_grown hN hg)
theorem h2_stR {N : Nat} {w w' : World} (hN : N + 1 < w.heap.size) (hg : w.grownBy w' (some N)) : Ext (h2 N w) (h2 N w') :=
  hid_grown (by rw [hid_size]; omega) (hid_grownBy hN hg)
theorem h2_stG {N G : Nat} {wA w w' : World} (hN : N + 1 < w.heap.size) (he : Ext (h2 N wA) (h2 N w)) (hg : w.grownBy w' (some G)) (hG : wA.heap.size ≤ G) : Ext (h2 N wA) (h2 N w') :=
  ext_st he (hid_grownBy (by rw [hid_size]; omega) (hid_grownBy hN hg)) (by unfold h2; rw [hid_size, hid_size]; exact hG)
theorem Blk.h2 {N g : Nat} {w : World} {xs : List Value} (h : Blk w g xs) (hg : N + 1 < g) : Blk (h2 N w) g xs := (h.hid (by omega)).hid (by omega)
theorem StrsIn.h2 {N M : Nat} {w : World} {v : Value} {l : List ByteArray} (h : StrsIn w M v l) (hg : N + 1 < M) : StrsIn (h2 N w) M v l := (h.hid (by omega)).hid (by omega)
/-- A role's map in a block of its own, from M on. -/
def MapIn (w : World) (M : Nat) (mv : Value) (gs : List Grant) : Prop := (mv = .map none ∧ gs = []) ∨ ∃ b, mv = .map (some b) ∧ M ≤ b ∧ SM w 53 b gs.length (permF gs gs.length)
theorem MapIn.ext {w w' : World} {M : Nat} {mv : Value} {gs : List Grant} (h : MapIn w M mv gs) (he : Ext w w') : MapIn w' M mv gs := by
  rcases h with h | ⟨b, hb, hM, hs⟩
  · exact Or.inl h
  · exact Or.inr ⟨b, hb, hM, hs.ext he⟩
theorem MapIn.kept {w w' : World} {M g : Nat} {mv : Value} {gs : List Grant} (h : MapIn w M mv gs) (hg : w.grownBy w' (some g)) (hlt : g < M) : MapIn w' M mv gs := by
  rcases h with h | ⟨b, hb, hM, hs⟩
  · exact Or.inl h
  · exact Or.inr ⟨b, hb, hM, hs.kept hg (sne (by omega))⟩
theorem MapIn.h2 {N M : Nat} {w : World} {mv : Value} {gs : List Grant} (h : MapIn w M mv gs) (hg : N + 1 < M) : MapAt (h2 N w) mv gs := by
  rcases h with h | ⟨b, hb, hM, hs⟩
  · exact Or.inl h
  · exact Or.inr ⟨b, hb, (hs.hid (by omega)).hid (by omega)⟩
theorem MapIn.shape {w : World} {M : Nat} {mv : Value} {gs : List Grant} (h : MapIn w M mv gs) : ∃ m, mv = .map m := by
  rcases h with h | ⟨b, hb, _⟩
  · exact ⟨none, h.1⟩
  · exact ⟨some b, hb⟩

/-! ### cells stored one after another -/
def stAll : World → Nat → Nat → List Value → World
  | w, _, _, [] => w
  | w, g, i, v :: r => stAll (w.setCell ⟨g, i, none⟩ v) g (i + 1) r
theorem blk_set1 {w : World} {g i : Nat} {xs : List Value} (h : Blk w g xs) (hi : i < xs.length) (v : Value) : Blk (w.setCell ⟨g, i, none⟩ v) g (xs.set i v) ∧ w.grownBy (w.setCell ⟨g, i, none⟩ v) (some g) := by
  obtain ⟨T, h⟩ := h
  refine ⟨⟨T, ?_⟩, ⟨rfl, rfl, rfl, by simp [World.setCell], fun k _ hk => Below.heap_setCell _ _ _ _ (fun e => hk (by rw [e]))⟩⟩
  have := heap_setCell_same w g i _ T v h
  rw [this]
  simp
theorem setR_cons {xs : List Value} {i : Nat} {v : Value} {r : List Value} (h : i + (r.length + 1) ≤ xs.length) : setR (xs.set i v) (i + 1) r = setR xs i (v :: r) := by
  apply List.ext_getElem?
  intro j
  rw [setR_get (by simp; omega), setR_get (by simpa using h)]
  by_cases h1 : i + 1 ≤ j ∧ j < i + 1 + r.length
  · rw [if_pos h1, if_pos (by simp; omega), show j - i = (j - (i + 1)) + 1 by omega]; rfl
  · rw [if_neg h1]
    by_cases h2 : j = i
    · subst h2
      rw [if_pos (by simp), Nat.sub_self, List.getElem?_set_self (by omega)]; rfl
    · rw [if_neg (by simp; omega), List.getElem?_set_ne (fun e => h2 e.symm)]
theorem stAll_blk : ∀ (vs : List Value) (w : World) (g i : Nat) (xs : List Value), Blk w g xs → i + vs.length ≤ xs.length → Blk (stAll w g i vs) g (setR xs i vs) ∧ w.grownBy (stAll w g i vs) (some g)
  | [], w, g, i, xs, h, _ => ⟨by simpa [setR, stAll] using h, World.grownBy.refl _ _⟩
  | v :: r, w, g, i, xs, h, hl => by
    simp only [List.length_cons] at hl
    obtain ⟨h1, g1⟩ := blk_set1 h (i := i) (by omega) v
    obtain ⟨h2, g2⟩ := stAll_blk r _ g (i + 1) _ h1 (by simp; omega)
    rw [setR_cons hl] at h2
    exact ⟨h2, g1.trans g2⟩
theorem grown_drew {w w' : World} {row : Option Nat} (h : w.grownBy w' row) : w.grownBy w'.drew row := ⟨h.os, h.tape, h.output, h.size, h.block⟩

structure ToW (os : List Org) (rs : List Role) (us : List User) (ss : List Share) (an : List ByteArray) (w' : World) (vO vR vU vS vA : Value) (rs' : List Role) (us' : List User) (ss' : List Share) : Prop where
  o : OrgsAt w' vO os
  r : RolesM w' vR rs'
  u : UsersAt w' vU us'
  s : SharesAt w' vS ss'
  a : StrsAt w' vA an
  rc : rs'.map Role.core = rs.map Role.core
  uc : us'.map User.core = us.map User.core
  sc : ss'.map Share.core = ss.map Share.core
def ToWPost (os : List Org) (rs : List Role) (us : List User) (ss : List Share) (an : List ByteArray) (w : World) : Ending → World → Prop := fun e w' =>
  ∃ vO vR vU vS vA rs' us' ss', ToW os rs us ss an w' vO vR vU vS vA rs' us' ss' ∧ e = .returned (.agg #[vO, vR, vU, vS, .slice none 0 0, vA]) ∧ Ext w w'
theorem RolesM.shape {w : World} {v : Value} {l : List Role} (h : RolesM w v l) : ∃ ao cap, v = .slice ao l.length cap ∧ l.length ≤ cap := by simpa using h.1.shape
theorem blk6 {w : World} {g : Nat} {a b c d e f : Value} (h : Blk w g [a, b, c, d, e, f]) : w.cell? ⟨g, 0, none⟩ = some a ∧ w.cell? ⟨g, 1, none⟩ = some b ∧ w.cell? ⟨g, 2, none⟩ = some c ∧ w.cell? ⟨g, 3, none⟩ = some d ∧ w.cell? ⟨g, 4, none⟩ = some e ∧ w.cell? ⟨g, 5, none⟩ = some f :=
  ⟨h.cell rfl, h.cell rfl, h.cell rfl, h.cell rfl, h.cell rfl, h.cell rfl⟩
theorem Try.infos118 : (Try.prog.info? 118).map (fun i => (i.zero, i.size, i.bytes)) = some (some (.agg #[.string ⟨#[]⟩, .string ⟨#[]⟩, .string ⟨#[]⟩]), 3, 48) := by kernel_rfl
theorem Try.infos97 : (Try.prog.info? 97).map (fun i => (i.zero, i.size, i.bytes)) = some (some (.agg #[.string ⟨#[]⟩, .string ⟨#[]⟩, .string ⟨#[]⟩, .map none]), 4, 56) := by kernel_rfl
theorem Try.infos100 : (Try.prog.info? 100).map (fun i => (i.zero, i.size, i.bytes)) = some (some (.agg #[.string ⟨#[]⟩, .slice none 0 0]), 2, 40) := by kernel_rfl
theorem Try.infos103 : (Try.prog.info? 103).map (fun i => (i.zero, i.size, i.bytes)) = some (some (.agg #[.string ⟨#[]⟩, .string ⟨#[]⟩, .string ⟨#[]⟩, .slice none 0 0, .string ⟨#[]⟩]), 5, 88) := by kernel_rfl
theorem Try.info40 : (Try.prog.info? 40).map (·.size) = some 1 := by kernel_rfl
theorem Try.info41 : (Try.prog.info? 41).map (·.size) = some 1 := by kernel_rfl
theorem Try.info42 : (Try.prog.info? 42).map (·.size) = some 1 := by kernel_rfl
theorem Try.info43 : (Try.prog.info? 43).map (·.size) = some 1 := by kernel_rfl
theorem Try.info46 : (Try.prog.info? 46).map (·.size) = some 1 := by kernel_rfl
theorem Try.info48 : (Try.prog.info? 48).map (·.size) = some 6 := by kernel_rfl
end Go.Proofs.Qxb6609292a
