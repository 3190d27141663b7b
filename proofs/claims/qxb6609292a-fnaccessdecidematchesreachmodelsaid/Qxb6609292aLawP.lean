/-
  Plain laws for seat b6609292a: what Decide answers is sound.
-/
import Derived.Test.Qxb6609292aDecP
set_option linter.unusedVariables false
set_option linter.unusedSimpArgs false
namespace Go.Proofs.Qxb6609292a
open Go.RowKit Go.Maps

theorem nodup_at {l : List ByteArray} (h : l.Nodup) {i j : Nat} {s : ByteArray} (hi : l[i]? = some s) (hj : l[j]? = some s) : i = j := by
  obtain ⟨h1, e1⟩ := List.getElem?_eq_some_iff.1 hi
  obtain ⟨h2, e2⟩ := List.getElem?_eq_some_iff.1 hj
  have hp := List.pairwise_iff_getElem.1 h
  rcases Nat.lt_trichotomy i j with hl | hl | hl
  · exact absurd (by rw [e1, e2]) (hp i j h1 h2 hl)
  · exact hl
  · exact absurd (by rw [e1, e2]) (hp j i h2 h1 hl)
theorem ids_core {rs rl : List Role} (h : rl.map Role.core = rs.map Role.core) : rl.map Role.id = rs.map Role.id := by
  have := congrArg (List.map (fun c => c.1)) h
  simpa [List.map_map, Function.comp_def, Role.core] using this
theorem role_core {rs rl : List Role} (h : rl.map Role.core = rs.map Role.core) (hnd : (rs.map Role.id).Nodup) {k : Nat} {r0 : Role} {role : ByteArray} (hk : rs[k]? = some r0) (hid : r0.id = role)
    {k' : Nat} {r' : Role} (h1 : idxTo (rl.map Role.id) (rl.map Role.id).length role = some k') (h2 : rl[k']? = some r') : r'.org = r0.org ∧ r'.grants = r0.grants := by
  have e1 := (idx_some _ _ _ h1).1
  rw [ids_core h] at e1
  have e2 : (rs.map Role.id)[k]? = some role := by rw [List.getElem?_map, hk]; show some r0.id = _; rw [hid]
  have := nodup_at hnd e1 e2
  subst this
  have e3 : (rl.map Role.core)[k']? = some r'.core := by rw [List.getElem?_map, h2]; rfl
  rw [h, List.getElem?_map, hk] at e3
  have e4 : r0.core = r'.core := Option.some.inj e3
  exact ⟨(congrArg (fun c => c.2.2.1) e4).symm, (congrArg (fun c => c.2.2.2) e4).symm⟩
theorem role_found {rs rl : List Role} (h : rl.map Role.core = rs.map Role.core) {k : Nat} {r0 : Role} {role : ByteArray} (hk : rs[k]? = some r0) (hid : r0.id = role) : ∃ k' r', idxTo (rl.map Role.id) (rl.map Role.id).length role = some k' ∧ rl[k']? = some r' := by
  have hm : role ∈ rl.map Role.id := by rw [ids_core h]; exact List.mem_map.2 ⟨r0, List.mem_of_getElem? hk, hid⟩
  cases hi : idxTo (rl.map Role.id) (rl.map Role.id).length role with
  | none => exact absurd hm (idx_none_iff.1 hi)
  | some k' =>
    have := (idx_some _ _ _ hi).2
    rw [List.length_map] at this
    obtain ⟨r', hr'⟩ := get_at rl k' this
    exact ⟨k', r', rfl, hr'⟩
theorem permTo_none {gs : List Grant} {s : ByteArray} (h : ∀ g ∈ gs, g.name ≠ s) : ∀ k, permTo gs k s = none
  | 0 => rfl
  | m + 1 => by
    unfold permTo
    rw [permTo_none h m]
    cases hg : gs[m]? with
    | none => simp
    | some g => rw [if_neg]; intro e; exact h g (List.mem_of_getElem? hg) (Option.some.inj e)
theorem permTo_mem {gs : List Grant} (hnd : (gs.map Grant.name).Nodup) {g : Grant} {i : Nat} (hi : gs[i]? = some g) : ∀ k, i < k → k ≤ gs.length → permTo gs k g.name = some g.scope
  | 0, h, _ => absurd h (Nat.not_lt_zero _)
  | m + 1, h, hk => by
    unfold permTo
    obtain ⟨gm, hgm⟩ := get_at gs m (by omega)
    rw [hgm]
    by_cases e : gm.name = g.name
    · have h1 : (gs.map Grant.name)[m]? = some g.name := by rw [List.getElem?_map, hgm]; show some gm.name = _; rw [e]
      have h2 : (gs.map Grant.name)[i]? = some g.name := by rw [List.getElem?_map, hi]; rfl
      have := nodup_at hnd h1 h2
      subst this
      rw [hgm] at hi
      cases hi
      rw [if_pos (by rfl)]; rfl
    · rw [if_neg (by show ¬ some gm.name = some g.name; intro e'; exact e (Option.some.inj e'))]
      have hne : i ≠ m := by intro e'; subst e'; rw [hgm] at hi; cases hi; exact e rfl
      exact permTo_mem hnd hi m (by omega) (by omega)
theorem permTo_mem' {gs : List Grant} (hnd : (gs.map Grant.name).Nodup) {g : Grant} (hg : g ∈ gs) : permTo gs gs.length g.name = some g.scope := by
  obtain ⟨i, hi, e⟩ := List.mem_iff_getElem.1 hg
  exact permTo_mem hnd (i := i) (by rw [List.getElem?_eq_getElem hi, e]) _ hi (Nat.le_refl _)
theorem posD_some {ids : List ByteArray} {s : ByteArray} {p : Nat} (h : idxTo ids ids.length s = some p) : posD ids s = p := by unfold posD; rw [h]; rfl
theorem posD_at {ids : List ByteArray} {s : ByteArray} (h : s ∈ ids) : ids[posD ids s]? = some s := by
  cases hp : idxTo ids ids.length s with
  | none => exact absurd h (idx_none_iff.1 hp)
  | some p => rw [posD_some hp]; exact (idx_some _ _ _ hp).1

theorem core_memP {α β : Type} {f : α → β} {l l' : List α} (h : l'.map f = l.map f) {x : α} (hx : x ∈ l') : ∃ y ∈ l, f y = f x := by
  have : f x ∈ l'.map f := List.mem_map.2 ⟨x, hx, rfl⟩
  rw [h] at this
  obtain ⟨y, hy, e⟩ := List.mem_map.1 this
  exact ⟨y, hy, e⟩
/-! ### without a grant nothing is handed over -/
theorem own_nil {os : List Org} {rl : List Role} {role perm : ByteArray} {tz : Int} {own : List Nat} (h : OwnR os rl role perm tz own) (hno : ∀ k r, idxTo (rl.map Role.id) (rl.map Role.id).length role = some k → rl[k]? = some r → permTo r.grants r.grants.length perm = none) : tz = -1 ∧ own = [] := by
  rcases h with ⟨k, r, sc, h1, h2, h3, _⟩ | ⟨_, h, h'⟩
  · rw [hno k r h1 h2] at h3; cases h3
  · exact ⟨h, h'⟩
theorem dec_ungranted {os : List Org} {rl : List Role} {sl : List Share} {an : List ByteArray} {role perm owner : ByteArray} {b : Int} {g : ByteArray} {sc : Int} {sh st : ByteArray} (h : DecR os rl sl an role perm owner b g sc sh st) (hne : owner ≠ E0)
    (hno : ∀ k r, idxTo (rl.map Role.id) (rl.map Role.id).length role = some k → rl[k]? = some r → permTo r.grants r.grants.length perm = none) : b = 4 ∧ g = E0 ∧ sc = 0 ∧ sh = E0 ∧ st = E0 := by
  rcases h with ⟨h, _⟩ | ⟨_, _, h⟩ | ⟨_, p, _, ⟨xs, _, _, h⟩ | ⟨pre, x, ⟨tz, own, A, hO, hA, hpre⟩, _⟩⟩
  · exact absurd h hne
  · exact h
  · exact h
  · obtain ⟨rfl, rfl⟩ := own_nil hO hno
    rcases hA with rfl | ⟨h, _⟩
    · have := hpre.length_le
      simp [v1, v2, v3] at this
    · exact absurd h (by decide)
/-- The role's own organization. -/
theorem dec_own {os : List Org} {rl : List Role} {sl : List Share} {an : List ByteArray} {role perm owner : ByteArray} {b : Int} {g : ByteArray} {sc : Int} {sh st : ByteArray} (h : DecR os rl sl an role perm owner b g sc sh st) (hne : owner ≠ E0) {k : Nat} {r : Role} {scope : Int} (hk : idxTo (rl.map Role.id) (rl.map Role.id).length role = some k) (hr : rl[k]? = some r)
    (hg : permTo r.grants r.grants.length perm = some scope) (hor : r.org = owner) (hin : owner ∈ os.map Org.id) : b = 1 ∧ g = owner ∧ sc = scope ∧ sh = E0 ∧ st = E0 := by
  have hown : ∀ tz own, OwnR os rl role perm tz own → ∃ rest, own = posD (os.map Org.id) owner :: rest := by
    intro tz own hO
    rcases hO with ⟨k', r', sc', h1, h2, h3, h4, h5⟩ | ⟨h1, _⟩
    · rw [hk] at h1; cases h1
      rw [hr] at h2; cases h2
      rw [hor] at h5
      rcases h5 with ⟨_, rfl⟩ | ⟨_, hs⟩
      · exact ⟨[], rfl⟩
      · exact ⟨_, hs.eq⟩
    · rw [h1 k r hk hr] at hg; cases hg
  rcases h with ⟨h, _⟩ | ⟨_, h, _⟩ | ⟨_, p, hp, h⟩
  · exact absurd h hne
  · exact absurd hin (idx_none_iff.1 h)
  · have hpp := posD_some hp
    rcases h with ⟨xs, ⟨tz, own, A, hO, _, rfl⟩, hno, _⟩ | ⟨pre, x, ⟨tz, own, A, hO, hA, hpre⟩, hno, hx, hb, hf⟩
    · obtain ⟨rest, rfl⟩ := hown tz own hO
      exact absurd hpp (hno (posD (os.map Org.id) owner, 1, 0) (by simp [v1]))
    · obtain ⟨rest, rfl⟩ := hown tz own hO
      obtain ⟨t, ht⟩ := hpre
      cases pre with
      | cons y ys =>
        have h0 := congrArg (fun l => l[0]?) ht
        simp [v1] at h0
        exact absurd (by rw [h0]; exact hpp) (hno y (by simp))
      | nil =>
        have h0 := congrArg (fun l => l[0]?) ht
        simp [v1] at h0
        subst h0
        rcases hf with ⟨h2, _⟩ | ⟨_, hs1, hs2, k', r', e1, e2, e3, e4⟩
        · exact absurd h2 (show ¬ ((1 : Int) = 2) by decide)
        · rw [hk] at e1; cases e1
          rw [hr] at e2; cases e2
          rw [hg] at e4
          exact ⟨hb, e3.trans hor, e4, hs1, hs2⟩
/-- What may be answered under a grant, away from the role's own organization. -/
def SoundR (os : List Org) (ss : List Share) (an : List ByteArray) (perm org : ByteArray) (p : Nat) (scope : Int) (b : Int) (g : ByteArray) (sc : Int) (sh st : ByteArray) : Prop :=
  (b = 4 ∧ g = E0 ∧ sc = 0 ∧ sh = E0 ∧ st = E0) ∨
  (b = 1 ∧ g = org ∧ sc = scope ∧ sh = E0 ∧ st = E0 ∧ scope = 1 ∧ Above (parL os) (posD (os.map Org.id) org) p) ∨
  (b = 3 ∧ g = org ∧ sc = scope ∧ sh = E0 ∧ st = E0 ∧ perm ∈ an ∧ Above (parL os) p (posD (os.map Org.id) org)) ∨
  (b = 2 ∧ g = E0 ∧ sc = 0 ∧ ∃ s ∈ ss, Brings (parL os) (os.map Org.id) (posD (os.map Org.id) org) scope sh st p perm s)
theorem dec_sound {os : List Org} {rl : List Role} {ss sl : List Share} {an : List ByteArray} {role perm owner org : ByteArray} {b : Int} {g : ByteArray} {sc : Int} {sh st : ByteArray} (h : DecR os rl sl an role perm owner b g sc sh st) (hsc : sl.map Share.core = ss.map Share.core) (hne : owner ≠ E0) {k : Nat} {r : Role} {scope : Int} (hk : idxTo (rl.map Role.id) (rl.map Role.id).length role = some k) (hr : rl[k]? = some r)
    (hg : permTo r.grants r.grants.length perm = some scope) (hor : r.org = org) (hoo : owner ≠ org) (hin : org ∈ os.map Org.id) {p : Nat} (hp : idxTo (os.map Org.id) (os.map Org.id).length owner = some p) : SoundR os ss an perm org p scope b g sc sh st := by
  have htop : p ≠ posD (os.map Org.id) org := by
    intro e
    have h1 := (idx_some _ _ _ hp).1
    have h2 := posD_at hin
    rw [← e, h1] at h2
    exact hoo (Option.some.inj h2)
  have hO' : ∀ tz own, OwnR os rl role perm tz own → tz = (posD (os.map Org.id) org : Int) ∧ ((scope = 0 ∧ own = [posD (os.map Org.id) org]) ∨ (scope = 1 ∧ Sub (parL os) (posD (os.map Org.id) org) own)) := by
    intro tz own hO
    rcases hO with ⟨k', r', sc', h1, h2, h3, h4, h5⟩ | ⟨h1, _⟩
    · rw [hk] at h1; cases h1
      rw [hr] at h2; cases h2
      rw [hg] at h3; cases h3
      rw [hor] at h4 h5
      exact ⟨h4, h5⟩
    · rw [h1 k r hk hr] at hg; cases hg
  have hreach : ∀ tz own, OwnR os rl role perm tz own → ∀ q ∈ own, Reaches (parL os) (posD (os.map Org.id) org) scope q := by
    intro tz own hO q hq
    rcases (hO' tz own hO).2 with ⟨_, rfl⟩ | ⟨h1, hs⟩
    · exact Or.inl (by simpa using hq)
    · rcases hs.below q hq with h | h
      · exact Or.inl h
      · exact Or.inr ⟨h1, h⟩
  rcases h with ⟨h, _⟩ | ⟨_, h, _⟩ | ⟨_, p', hp', h⟩
  · exact absurd h hne
  · rw [hp] at h; cases h
  · rw [hp] at hp'; cases hp'
    rcases h with ⟨xs, _, _, h⟩ | ⟨pre, x, ⟨tz, own, A, hO, hA, hpre⟩, _, hx, hb, hf⟩
    · exact Or.inl h
    · have hmem : x ∈ v1 own ++ v2 (os.map Org.id) sl perm own ++ v3 A := hpre.subset (by simp)
      have hfin : (x.2.1 = 1 ∨ x.2.1 = 3) → g = org ∧ sc = scope ∧ sh = E0 ∧ st = E0 := by
        intro h13
        rcases hf with ⟨h2, _⟩ | ⟨_, hs1, hs2, k', r', e1, e2, e3, e4⟩
        · rcases h13 with h | h <;> (rw [h2] at h; exact absurd h (by decide))
        · rw [hk] at e1; cases e1
          rw [hr] at e2; cases e2
          rw [hg] at e4
          exact ⟨e3.trans hor, e4, hs1, hs2⟩
      rcases List.mem_append.1 hmem with hm | hm
      · rcases List.mem_append.1 hm with hm | hm
        · -- the role's own grant
          obtain ⟨q, hq, rfl⟩ := List.mem_map.1 hm
          obtain ⟨f1, f2, f3, f4⟩ := hfin (Or.inl rfl)
          have hqp : q = p := hx
          subst hqp
          rcases hreach tz own hO q hq with h | ⟨h1, h2⟩
          · exact absurd h htop
          · exact Or.inr (Or.inl ⟨hb, f1, f2, f3, f4, h1, h2⟩)
        · -- a share
          obtain ⟨q, hq, hm⟩ := List.mem_flatMap.1 hm
          obtain ⟨s, hs, hm⟩ := List.mem_flatMap.1 hm
          unfold vsh at hm
          cases hsh : sl[s]? with
          | none => rw [hsh] at hm; simp at hm
          | some s1 =>
            rw [hsh] at hm
            by_cases hc : cov perm s1.perms = true
            · simp [hc] at hm
              subst hm
              rcases hf with ⟨_, hg0, hs0, s', s2, e1, e2, e3, e4⟩ | ⟨h13, _⟩
              · have : s = s' := Int.ofNat.inj e1
                subst this
                rw [hsh] at e2; cases e2
                obtain ⟨y, hy, ey⟩ := core_memP hsc (List.mem_of_getElem? hsh)
                have y1 : y.id = s1.id := congrArg (fun c => c.1) ey
                have y2 : y.owner = s1.owner := congrArg (fun c => c.2.1) ey
                have y3 : y.dest = s1.dest := congrArg (fun c => c.2.2.1) ey
                have y4 : y.perms = s1.perms := congrArg (fun c => c.2.2.2.1) ey
                have hkey := (mem_kids.1 hs)
                unfold toKeys at hkey
                rw [List.getElem?_map, hsh] at hkey
                have hqe : posD (os.map Org.id) s1.dest = q := Int.ofNat.inj (Option.some.inj hkey)
                refine Or.inr (Or.inr (Or.inr ⟨hb, hg0, hs0, y, hy, y1.trans e3.symm, y3.trans e4.symm, by rw [y2]; exact hx, by rw [y4]; exact cov_iff.1 hc, ?_⟩))
                rw [y3, hqe]
                exact hreach tz own hO q hq
              · rcases h13 with h | h
                · exact absurd h (show ¬ ((2 : Int) = 1) by decide)
                · exact absurd h (show ¬ ((2 : Int) = 3) by decide)
            · simp [hc] at hm
      · -- an ancestor
        obtain ⟨q, hq, rfl⟩ := List.mem_map.1 hm
        obtain ⟨f1, f2, f3, f4⟩ := hfin (Or.inr rfl)
        have hqp : q = p := hx
        subst hqp
        rcases hA with rfl | ⟨_, h2, h3⟩
        · cases hq
        · have htz := (hO' tz own hO).1
          rw [htz] at h3
          have := (upL_mem A _ h3 q).1 hq
          rw [← above_iff] at this
          exact Or.inr (Or.inr (Or.inl ⟨hb, f1, f2, f3, f4, h2, this⟩))
end Go.Proofs.Qxb6609292a
