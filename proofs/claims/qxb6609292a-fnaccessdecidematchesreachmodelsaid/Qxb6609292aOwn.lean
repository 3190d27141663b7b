/-
  For seat b6609292a: the model in memory; WALKS of ownReach and Share.covers.
-/
import Derived.Test.Qxb6609292aTree
import Derived.Test.Qxb6609292aSub
import Derived.Test.Qxb6609292aBrings
set_option linter.unusedVariables false
set_option linter.unusedSimpArgs false
namespace Go.Proofs.Qxb6609292a
open Go.RowKit Go.Maps

theorem TreeAt.ext {w w' : World} {T : Nat} {os : List Org} (h : TreeAt w T os) (he : Ext w w') : TreeAt w' T os := by
  obtain ⟨gi, bp, gp, gS, gM, S, M, sv, rv, N, h1, h2, h3, h4, h5, h6⟩ := h.ex
  exact ⟨gi, bp, gp, gS, gM, S, M, sv, rv, N, h1.ext he, h2.ext he, h3.ext he, h4, h5.ext he, h6.ext he⟩
def ModelAt (w : World) (m : Nat) (os : List Org) (rs : List Role) (ss : List Share) (an : List ByteArray) : Prop :=
  ∃ T bO vR bR vU bU vS gS gM vc vd bA S M Nr Na, Blk w m [.pointer (some ⟨T, 0, none⟩), bO, vR, .map (some bR), vU, bU, vS, .slice (some ⟨gS, 0, none⟩) (os.length + 1) (os.length + 1), .slice (some ⟨gM, 0, none⟩) (off (toKeys (os.map Org.id) ss) os.length) (off (toKeys (os.map Org.id) ss) os.length), vc, vd, .map (some bA)] ∧
    TreeAt w T os ∧ RolesM w vR rs ∧ SM w 3 bR Nr (posF (rs.map Role.id) (rs.map Role.id).length) ∧ SharesAt w vS ss ∧ Grouped (toKeys (os.map Org.id) ss) os.length S M ∧ Blk w gS (S.map iI) ∧ Blk w gM (M.map iI) ∧ SM w 4 bA Na (setF an)
theorem ModelAt.ext {w w' : World} {m : Nat} {os : List Org} {rs : List Role} {ss : List Share} {an : List ByteArray} (h : ModelAt w m os rs ss an) (he : Ext w w') : ModelAt w' m os rs ss an := by
  obtain ⟨T, bO, vR, bR, vU, bU, vS, gS, gM, vc, vd, bA, S, M, Nr, Na, h1, h2, h3, h4, h5, h6, h7, h8, h9⟩ := h
  exact ⟨T, bO, vR, bR, vU, bU, vS, gS, gM, vc, vd, bA, S, M, Nr, Na, h1.ext he, h2.ext he, h3.ext he, h4.ext he, h5.ext he, h6, h7.ext he, h8.ext he, h9.ext he⟩
/-- A slice of numbers. -/
def IntsAt (w : World) (v : Value) (l : List Nat) : Prop := ∃ a cap, v = .slice a l.length cap ∧ ∀ i x, l[i]? = some x → ∃ b o, a = some ⟨b, o, none⟩ ∧ w.cell? ⟨b, o + i, none⟩ = some (nI x)
theorem IntsAt.ext {w w' : World} {v : Value} {l : List Nat} (h : IntsAt w v l) (he : Ext w w') : IntsAt w' v l := by
  obtain ⟨a, cap, hv, h2⟩ := h
  refine ⟨a, cap, hv, fun i x hi => ?_⟩
  obtain ⟨b, o, ha, hc⟩ := h2 i x hi
  exact ⟨b, o, ha, he.cell hc⟩
theorem ints_of_own {w : World} {base : Nat} {v : Value} {l : List Nat} (h : w.ownsRow base 3 1 v l.length (l.map nI)) : IntsAt w v l := by
  rcases h.2 with ⟨rfl, h0⟩ | ⟨g, cap, cur, rfl, _⟩
  · exact ⟨none, 0, by rw [h0], fun i x hi => by rw [List.length_eq_zero_iff.1 h0] at hi; simp at hi⟩
  · refine ⟨some ⟨g, 0, none⟩, cap, rfl, fun i x hi => ⟨g, 0, rfl, ?_⟩⟩
    have hl := (List.getElem?_eq_some_iff.1 hi).1
    rw [Nat.zero_add, h.cellAt i (by omega), List.getElem?_map, hi]; rfl
/-- What ownReach answers. -/
def OwnR (os : List Org) (rs : List Role) (role perm : ByteArray) (tz : Int) (own : List Nat) : Prop :=
  (∃ k r sc, idxTo (rs.map Role.id) (rs.map Role.id).length role = some k ∧ rs[k]? = some r ∧ permTo r.grants r.grants.length perm = some sc ∧ tz = (posD (os.map Org.id) r.org : Int) ∧ ((sc = 0 ∧ own = [posD (os.map Org.id) r.org]) ∨ (sc = 1 ∧ Sub (parL os) (posD (os.map Org.id) r.org) own))) ∨
  ((∀ k r, idxTo (rs.map Role.id) (rs.map Role.id).length role = some k → rs[k]? = some r → permTo r.grants r.grants.length perm = none) ∧ tz = -1 ∧ own = [])
theorem permTo_scope {gs : List Grant} (h : ∀ g ∈ gs, g.scope = 0 ∨ g.scope = 1) {s : ByteArray} {z : Int} : ∀ k, permTo gs k s = some z → z = 0 ∨ z = 1
  | 0, hp => by simp [permTo] at hp
  | m + 1, hp => by
    unfold permTo at hp
    split at hp
    · cases hg : gs[m]? with
      | none => rw [hg] at hp; cases hp
      | some g => rw [hg] at hp; have := h g (List.mem_of_getElem? hg); cases hp; exact this
    · exact permTo_scope h m hp
theorem plain53z : plainElem (H := Unit) Try.prog 53 (.int .i64 0) = some (.lit (.int .i64 0), []) := by kernel_rfl
/-- A look-up in a role's permissions. -/
theorem MapAt.look {w : World} {mv : Value} {gs : List Grant} (h : MapAt w mv gs) (s : ByteArray) (hs : okStr s) :
    (Instr.lookup 95 mv (.string s) true).run Try.prog w = .ok (.tuple #[.int .i64 ((permTo gs gs.length s).getD 0), .bool (permTo gs gs.length s).isSome]) w ∧ (Instr.lookup 95 mv (.string s) false).run Try.prog w = .ok (.int .i64 ((permTo gs gs.length s).getD 0)) w := by
  rcases h with ⟨rfl, rfl⟩ | ⟨b, rfl, hm⟩
  · constructor <;> kernel_rfl
  · have h1 := hm.look_ok Try.underlying95 (zero53 w) plain53z s hs
    have h2 := hm.look Try.underlying95 (zero53 w) plain53z s hs
    rw [h1, h2]
    unfold permF
    cases permTo gs gs.length s with
    | none => exact ⟨rfl, rfl⟩
    | some z => exact ⟨rfl, rfl⟩
def OwnPost (os : List Org) (rs : List Role) (role perm : ByteArray) (w : World) : Ending → World → Prop := fun e w' =>
  ∃ tz own v, Hid (OwnR os rs role perm tz own) ∧ IntsAt w' v own ∧ e = .returned (.tuple #[.int .i64 tz, v]) ∧ Ext w w'

set_option maxRecDepth 100000 in
set_option maxHeartbeats 3200000 in
theorem ownReach_any (m : Nat) (os : List Org) (rs : List Role) (ss : List Share) (an : List ByteArray) (role perm : ByteArray) (w : World) (h : ModelAt w m os rs ss an) (hor : okStr role) (hop : okStr perm)
    (hno : os.length ≤ 1048576) (hnr : rs.length ≤ 1048576) (hends : ∀ q : Nat, q < os.length → Ends (parL os) q) (hv : ∀ r ∈ rs, r.org ∈ os.map Org.id ∧ ∀ g ∈ r.grants, g.scope = 0 ∨ g.scope = 1) :
    Calls Try.prog 71 #[.pointer (some ⟨m, 0, none⟩), .string role, .string perm] w (OwnPost os rs role perm w) := by
  obtain ⟨T, bO, vR, bR, vU, bU, vS, gS, gM, vc, vd, bA, S, M, Nr, Na, hB, hT, hR, hmr, hS, hgr, hgS, hgM, hma⟩ := h
  obtain ⟨ar, cr, rfl, hcr⟩ := hR.shape
  have c0 : w.cell? ⟨m, 0, none⟩ = some (.pointer (some ⟨T, 0, none⟩)) := hB.cell rfl
  have c2 : w.cell? ⟨m, 2, none⟩ = some (.slice ar rs.length cr) := hB.cell rfl
  have c3 : w.cell? ⟨m, 3, none⟩ = some (.map (some bR)) := hB.cell rfl
  clear hgr hgS hgM hma hS hB
  cases hk : idxTo (rs.map Role.id) (rs.map Role.id).length role with
  | none =>
    have hlk := hmr.nopos hor hk
    have HO : Hid (OwnR os rs role perm (-1) []) := Or.inr ⟨fun k r h1 => by (rw [hk] at h1; cases h1), rfl, rfl⟩
    clear hk
    unfold OwnPost
    go_enter Try.func71, Try.ntmps71
    go_wp2_with fail
    go_ret2
    exact ⟨-1, [], .slice none 0 0, HO, ⟨none, 0, rfl, fun i x hi => by simp at hi⟩, rfl, Ext.refl _⟩
  | some k =>
    have hlk := hmr.pos hor hk
    have hkl := (idx_some _ _ _ hk).2
    rw [List.length_map] at hkl
    obtain ⟨r, hr⟩ := get_at rs k hkl
    obtain ⟨bb, o2, rfl, d0, d1, d2, d3, ok0, okn, oko, okg, hmap⟩ := hR.at hr
    obtain ⟨v1, v2⟩ := hv r (List.mem_of_getElem? hr)
    obtain ⟨mo, hmo⟩ := hmap.shape
    rw [hmo] at d3 hmap
    have hx := Ext.alloc w (.cells #[.string r.id, .string r.name, .string r.org, .map mo] 97)
    have hC := Blk.alloc w [.string r.id, .string r.name, .string r.org, .map mo] 97
    have k2 := hC.cell (i := 2) rfl
    have k3 := hC.cell (i := 3) rfl
    have e0 := hx.cell c0
    obtain ⟨gi, bp, gp, tS, tM, S1, M1, sv, rv, N, t1, t2, t3, t4, t5, t6⟩ := hT.ex
    have eT1 : (w.alloc (.cells #[.string r.id, .string r.name, .string r.org, .map mo] 97)).cell? ⟨T, 1, none⟩ = some (.map (some bp)) := (t1.ext hx).cell rfl
    have hl2 := ((t2.ext hx).ext (Ext.refl _).drawn).posD oko
    have hxd := hx.drawn
    have hpl := posD_lt v1
    rw [List.length_map] at hpl
    have HK : Hid (idxTo (rs.map Role.id) (rs.map Role.id).length role = some k) := hk
    have HR : Hid (rs[k]? = some r) := hr
    have hl3 := (hmap.ext hxd).look perm hop
    clear hk hr hmo
    unfold OwnPost
    cases hp : permTo r.grants r.grants.length perm with
    | none =>
      rw [hp] at hl3
      have hl4 := hl3.1
      simp only [Option.getD_none, Option.isSome_none] at hl4
      have HO : Hid (OwnR os rs role perm (-1) []) := Or.inr ⟨fun k' r' h1 h2 => by (rw [HK.out] at h1; cases h1; rw [HR.out] at h2; cases h2; exact hp), rfl, rfl⟩
      clear hl3 hp
      go_enter Try.func71, Try.ntmps71
      go_upto_region 5 with fail
      go_big_region
      go_wp2
      go_ret2
      exact ⟨-1, [], .slice none 0 0, HO, ⟨none, 0, rfl, fun i x hi => by simp at hi⟩, rfl, hxd⟩
    | some sc =>
      rw [hp] at hl3
      have hl4 := hl3.1
      simp only [Option.getD_some, Option.isSome_some] at hl4
      rcases permTo_scope v2 _ hp with rfl | rfl
      · have HO : Hid (OwnR os rs role perm (posD (os.map Org.id) r.org) [posD (os.map Org.id) r.org]) := Or.inl ⟨k, r, 0, HK.out, HR.out, hp, rfl, Or.inl ⟨rfl, rfl⟩⟩
        clear hl3 hp
        go_enter Try.func71, Try.ntmps71
        go_upto_region 5 with fail
        go_big_region
        go_wp2
        go_ret2
        refine ⟨_, [posD (os.map Org.id) r.org], .slice (some ⟨w.heap.size + 1, 0, none⟩) 1 1, HO, ⟨_, 1, rfl, fun i x hi => ?_⟩, rfl, ?_⟩
        · have hB2 := Blk.alloc (w.alloc (.cells #[.string r.id, .string r.name, .string r.org, .map mo] 97)).drew [.int .i64 (posD (os.map Org.id) r.org : Int)] 3
          have k := hB2.cell (i := 0) rfl
          have hi' := (List.getElem?_eq_some_iff.1 hi).1
          simp at hi'
          subst hi'
          simp at hi
          subst hi
          exact ⟨w.heap.size + 1, 0, rfl, by simp [nI]⟩
        · exact hxd.trans (Ext.alloc _ _)
      · have HO : ∀ own, Sub (parL os) (posD (os.map Org.id) r.org) own → Hid (OwnR os rs role perm (posD (os.map Org.id) r.org) own) := fun own hs => Or.inl ⟨k, r, 1, HK.out, HR.out, hp, rfl, Or.inr ⟨rfl, hs⟩⟩
        have hrd := ranked_of_ends (P := parL os) (by rw [parL_len]; exact hends)
        have e0d := hxd.cell c0
        have eT3 : (w.alloc (.cells #[.string r.id, .string r.name, .string r.org, .map mo] 97)).drew.cell? ⟨T, 3, none⟩ = some (.slice (some ⟨tS, 0, none⟩) ((parL os).length + 1) ((parL os).length + 1)) := by rw [parL_len]; exact (t1.ext hxd).cell rfl
        have eT4 : (w.alloc (.cells #[.string r.id, .string r.name, .string r.org, .map mo] 97)).drew.cell? ⟨T, 4, none⟩ = some (.slice (some ⟨tM, 0, none⟩) (off (parL os) (parL os).length) (off (parL os) (parL os).length)) := by rw [parL_len]; exact (t1.ext hxd).cell rfl
        have t4' : Grouped (parL os) (parL os).length S1 M1 := by rw [parL_len]; exact t4
        have hgr := t4'
        obtain ⟨rank, hrk, _⟩ := hrd
        have hcall := subtree_any (parL os) rank T tS tM (posD (os.map Org.id) r.org) S1 M1 _ (rng_parL os) hrk (by rw [parL_len]; exact hno) t4' (t5.ext hxd) (t6.ext hxd) eT3 eT4 (by rw [parL_len]; exact hpl)
        clear hl3 hp hgr eT3 eT4 t4' t4 t5 t6 t1 t3
        go_enter Try.func71, Try.ntmps71
        go_upto_region 5 with fail
        go_big_region
        go_wp2_with (go_at_call 86; refine hcall.mono ?_; rintro e w2 ⟨Q, g, cap, hSub, hown, rfl, hx2⟩)
        go_ret2
        exact ⟨_, Q, _, HO Q hSub, ints_of_own hown, rfl, hxd.trans hx2⟩

def cov (perm : ByteArray) (l : List ByteArray) : Bool := l.isEmpty || l.any fun s => decide (s = perm)
theorem cov_iff {perm : ByteArray} {l : List ByteArray} : cov perm l = true ↔ (l = [] ∨ perm ∈ l) := by
  unfold cov
  rw [Bool.or_eq_true, List.isEmpty_iff, List.any_eq_true]
  constructor
  · rintro (h | ⟨x, hx, he⟩)
    · exact Or.inl h
    · simp at he; rw [he] at hx; exact Or.inr hx
  · rintro (h | h)
    · exact Or.inl h
    · exact Or.inr ⟨perm, h, by simp⟩
set_option maxRecDepth 100000 in
set_option maxHeartbeats 1600000 in
theorem shCovers_any (a b c d : ByteArray) (v : Value) (l : List ByteArray) (s : ByteArray) (w : World) (h : StrsAt w v l) (hn : l.length ≤ 1048576) :
    Calls Try.prog 73 #[.agg #[.string a, .string b, .string c, v, .string d], .string s] w fun e w' => e = .returned (.bool (cov s l)) ∧ Ext w w' := by
  obtain ⟨ao, cap, rfl, hcap⟩ := h.shape
  have hx := Ext.alloc w (.cells #[.string a, .string b, .string c, .slice ao l.length cap, .string d] 103)
  have h' := h.ext hx
  by_cases hl : l.length = 0
  · have e1 : ((l.length : Int) == 0) = true := by simp [hl]
    have hl' := List.length_eq_zero_iff.1 hl
    have hc : cov s l = true := cov_iff.2 (Or.inl hl')
    rw [hc]
    clear hl hl' hc
    go_enter Try.func73, Try.ntmps73
    go_wp2_with fail
    go_ret
    exact ⟨rfl, hx⟩
  · have e1 : ((l.length : Int) == 0) = false := by simp; exact fun e => hl (by rw [e]; rfl)
    have hl' : l ≠ [] := fun e => hl (by rw [e]; rfl)
    go_enter Try.func73, Try.ntmps73
    go_wp2_with (go_at_call 87; refine (contains_any _ l _ _ h' hn).mono ?_; rintro e w' ⟨b2, hb2, rfl, rfl⟩)
    go_ret
    refine ⟨?_, hx⟩
    have : b2 = cov s l := by
      cases hc : cov s l with
      | true => rcases cov_iff.1 hc with h1 | h1; exact absurd h1 hl'; exact hb2.2 h1
      | false =>
        cases b2 with
        | false => rfl
        | true => have := cov_iff.2 (Or.inr (hb2.1 rfl)); rw [hc] at this; cases this
    rw [← this]; rfl
end Go.Proofs.Qxb6609292a
