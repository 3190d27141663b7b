/-
  Plain laws for seat b6609292a: Decide's answer under a grant, as modelDecide finds it.
-/
import Derived.Test.Qxb6609292aLawP
import Derived.Test.Qxb6609292aBfsP
set_option linter.unusedVariables false
set_option linter.unusedSimpArgs false
namespace Go.Proofs.Qxb6609292a
open Go.RowKit Go.Maps

/-- The grant's reach, in the order of its walk. -/
def OwnOk (P : List Int) (top : Nat) (scope : Int) (own : List Nat) : Prop := (scope = 0 ∧ own = [top]) ∨ (scope = 1 ∧ Sub P top own)
theorem OwnOk.bord {P : List Int} {top : Nat} {scope : Int} {own : List Nat} (h : OwnOk P top scope own) (ht : top < P.length) : BOrd P top own := by
  rcases h with ⟨_, rfl⟩ | ⟨_, h⟩
  · exact bord_one P ht
  · exact h.bord
theorem Sub.all {P : List Int} {top : Nat} {Q : List Nat} (h : Sub P top Q) : ∀ (m p : Nat), up P (m + 1) (p : Int) = (top : Int) → p ∈ Q := by
  have hk : ∀ q ∈ Q, ∀ c, P[c]? = some (q : Int) → c ∈ Q := by
    intro q hq c hc
    rw [h.eq]
    exact List.mem_cons_of_mem _ (List.mem_flatMap.2 ⟨q, hq, mem_kids.2 hc⟩)
  have htop : top ∈ Q := by rw [h.eq]; simp
  intro m
  induction m with
  | zero =>
    intro p hp
    have e : par P (p : Int) = (top : Int) := hp
    rcases par_cases P p with h' | ⟨z, hz, hp'⟩
    · rw [h'] at e; omega
    · rw [hp'] at e
      exact hk top htop p (by rw [hz, e])
  | succ m ih =>
    intro p hp
    have e : up P (m + 1) (par P (p : Int)) = (top : Int) := hp
    rcases par_cases P p with h' | ⟨z, hz, hp'⟩
    · rw [h'] at e
      have := up_neg P (m + 1) (-1) (by decide)
      omega
    · rw [hp'] at e
      by_cases hzn : z < 0
      · have := up_neg P (m + 1) z hzn
        omega
      · obtain ⟨q, rfl⟩ : ∃ q : Nat, z = (q : Int) := ⟨z.toNat, by omega⟩
        exact hk q (ih q e) p hz
theorem OwnOk.reach {P : List Int} {top : Nat} {scope : Int} {own : List Nat} (h : OwnOk P top scope own) (p : Nat) : Reaches P top scope p ↔ p ∈ own := by
  rcases h with ⟨h0, rfl⟩ | ⟨h1, h⟩
  · constructor
    · rintro (e | ⟨e, _⟩)
      · simp [e]
      · rw [h0] at e; exact absurd e (by decide)
    · intro hp; left; simpa using hp
  · constructor
    · rintro (e | ⟨_, m, hm⟩)
      · rw [e, h.eq]; simp
      · exact h.all m p hm
    · intro hp
      rcases h.below p hp with e | e
      · exact Or.inl e
      · exact Or.inr ⟨h1, e⟩

def Cand (P : List Int) (ids : List ByteArray) (top : Nat) (scope : Int) (p : Nat) (perm : ByteArray) (x : Share) : Prop :=
  posD ids x.owner = p ∧ (x.perms = [] ∨ perm ∈ x.perms) ∧ Reaches P top scope (posD ids x.dest)
/-- The best of the first k. -/
def BestTo (P : List Int) (ids : List ByteArray) (top : Nat) (scope : Int) (p : Nat) (perm : ByteArray) (ss : List Share) (own : List Nat) (k : Nat) (z : Int) : Prop :=
  (z = -1 ∧ ∀ s x, s < k → ss[s]? = some x → ¬ Cand P ids top scope p perm x) ∨
  ∃ t x, z = ((t : Nat) : Int) ∧ t < k ∧ ss[t]? = some x ∧ Cand P ids top scope p perm x ∧
    ∀ s y, s < k → ss[s]? = some y → Cand P ids top scope p perm y → own.idxOf (posD ids x.dest) < own.idxOf (posD ids y.dest) ∨ (own.idxOf (posD ids x.dest) = own.idxOf (posD ids y.dest) ∧ t ≤ s)
section
variable {P : List Int} {ids : List ByteArray} {top : Nat} {scope : Int} {p : Nat} {perm : ByteArray} {ss : List Share} {own : List Nat}
theorem best_zero : BestTo P ids top scope p perm ss own 0 (-1) := Or.inl ⟨rfl, fun s x h => absurd h (Nat.not_lt_zero _)⟩
theorem best_skip {k : Nat} {z : Int} {x : Share} (h : BestTo P ids top scope p perm ss own k z) (hx : ss[k]? = some x) (hc : ¬ Cand P ids top scope p perm x) : BestTo P ids top scope p perm ss own (k + 1) z := by
  rcases h with ⟨h1, h2⟩ | ⟨t, y, h1, h2, h3, h4, h5⟩
  · refine Or.inl ⟨h1, fun s y hs hy => ?_⟩
    by_cases e : s = k
    · subst e; rw [hx] at hy; cases hy; exact hc
    · exact h2 s y (by omega) hy
  · refine Or.inr ⟨t, y, h1, by omega, h3, h4, fun s y' hs hy hcy => ?_⟩
    by_cases e : s = k
    · subst e; rw [hx] at hy; cases hy; exact absurd hcy hc
    · exact h5 s y' (by omega) hy hcy
theorem best_first {k : Nat} {x : Share} (h : BestTo P ids top scope p perm ss own k (-1)) (hx : ss[k]? = some x) (hc : Cand P ids top scope p perm x) : BestTo P ids top scope p perm ss own (k + 1) k := by
  rcases h with ⟨h1, h2⟩ | ⟨t, y, h1, _⟩
  · refine Or.inr ⟨k, x, rfl, by omega, hx, hc, fun s y hs hy hcy => ?_⟩
    by_cases e : s = k
    · subst e; rw [hx] at hy; cases hy; exact Or.inr ⟨rfl, Nat.le_refl _⟩
    · exact absurd hcy (h2 s y (by omega) hy)
  · omega
theorem best_new {k t : Nat} {x y : Share} (h : BestTo P ids top scope p perm ss own k t) (hx : ss[k]? = some x) (hc : Cand P ids top scope p perm x) (hy : ss[t]? = some y) (hlt : own.idxOf (posD ids x.dest) < own.idxOf (posD ids y.dest)) : BestTo P ids top scope p perm ss own (k + 1) k := by
  rcases h with ⟨h1, h2⟩ | ⟨t', y', h1, h2, h3, h4, h5⟩
  · omega
  · have e : t = t' := Int.ofNat.inj h1
    subst e
    rw [hy] at h3; cases h3
    refine Or.inr ⟨k, x, rfl, by omega, hx, hc, fun s z hs hz hcz => ?_⟩
    by_cases e : s = k
    · subst e; rw [hx] at hz; cases hz; exact Or.inr ⟨rfl, Nat.le_refl _⟩
    · rcases h5 s z (by omega) hz hcz with h | h
      · left; omega
      · left; omega
theorem best_keep {k t : Nat} {x y : Share} (h : BestTo P ids top scope p perm ss own k t) (hx : ss[k]? = some x) (hy : ss[t]? = some y) (hlt : ¬ own.idxOf (posD ids x.dest) < own.idxOf (posD ids y.dest)) : BestTo P ids top scope p perm ss own (k + 1) t := by
  rcases h with ⟨h1, h2⟩ | ⟨t', y', h1, h2, h3, h4, h5⟩
  · omega
  · have e : t = t' := Int.ofNat.inj h1
    subst e
    rw [hy] at h3; cases h3
    refine Or.inr ⟨t, y, rfl, by omega, hy, h4, fun s z hs hz hcz => ?_⟩
    by_cases e : s = k
    · subst e; rw [hx] at hz; cases hz
      rcases Nat.lt_or_ge (own.idxOf (posD ids y.dest)) (own.idxOf (posD ids x.dest)) with h | h
      · exact Or.inl h
      · exact Or.inr ⟨by omega, by omega⟩
    · exact h5 s z (by omega) hz hcz
theorem best_some {k t : Nat} (h : BestTo P ids top scope p perm ss own k t) : ∃ y, ss[t]? = some y ∧ t < k ∧ Cand P ids top scope p perm y := by
  rcases h with ⟨h1, h2⟩ | ⟨t', y', h1, h2, h3, h4, h5⟩
  · omega
  · have e : t = t' := Int.ofNat.inj h1
    subst e
    exact ⟨y', h3, h2, h4⟩
theorem best_cases {k : Nat} {z : Int} (h : BestTo P ids top scope p perm ss own k z) : z = -1 ∨ ∃ t : Nat, z = t := by
  rcases h with ⟨h1, _⟩ | ⟨t', y', h1, _⟩
  · exact Or.inl h1
  · exact Or.inr ⟨t', h1⟩
theorem best_one {k : Nat} {z z' : Int} (h : BestTo P ids top scope p perm ss own k z) (h' : BestTo P ids top scope p perm ss own k z') : z = z' := by
  rcases h with ⟨rfl, h2⟩ | ⟨t, x, rfl, h2, h3, h4, h5⟩
  · rcases h' with ⟨h1', _⟩ | ⟨t', y', h1', h2', h3', h4', h5'⟩
    · exact h1'.symm
    · exact absurd h4' (h2 t' y' h2' h3')
  · rcases h' with ⟨h1', h2'⟩ | ⟨t', y', rfl, h2', h3', h4', h5'⟩
    · exact absurd h4 (h2' t x h2 h3)
    · rcases h5 t' y' h2' h3' h4' with a | ⟨a, a'⟩
      · rcases h5' t x h2 h3 h4 with b | ⟨b, b'⟩ <;> omega
      · rcases h5' t x h2 h3 h4 with b | ⟨b, b'⟩
        · omega
        · have : t = t' := by omega
          rw [this]
end
/-- The answer under a grant. -/
def AnsR (os : List Org) (ss : List Share) (an : List ByteArray) (perm org : ByteArray) (p : Nat) (scope : Int) (own : List Nat) (b : Int) (g : ByteArray) (sc : Int) (sh st : ByteArray) : Prop :=
  (Reaches (parL os) (posD (os.map Org.id) org) scope p ∧ b = 1 ∧ g = org ∧ sc = scope ∧ sh = E0 ∧ st = E0) ∨
  (¬ Reaches (parL os) (posD (os.map Org.id) org) scope p ∧ ∃ z, BestTo (parL os) (os.map Org.id) (posD (os.map Org.id) org) scope p perm ss own ss.length z ∧
    ((∃ t x, z = ((t : Nat) : Int) ∧ ss[t]? = some x ∧ b = 2 ∧ g = E0 ∧ sc = 0 ∧ sh = x.id ∧ st = x.dest) ∨
     (z = -1 ∧ perm ∈ an ∧ Above (parL os) p (posD (os.map Org.id) org) ∧ b = 3 ∧ g = org ∧ sc = scope ∧ sh = E0 ∧ st = E0) ∨
     (z = -1 ∧ ¬ (perm ∈ an ∧ Above (parL os) p (posD (os.map Org.id) org)) ∧ b = 4 ∧ g = E0 ∧ sc = 0 ∧ sh = E0 ∧ st = E0)))

/-! ### Decide's answer is that -/
theorem pre_of {α : Type} {pre F R : List α} {x : α} (h : pre ++ [x] <+: F ++ R) (hx : x ∉ F) : F <+: pre := by
  obtain ⟨t, ht⟩ := h
  have hl : F.length ≤ pre.length := by
    rcases Nat.lt_or_ge pre.length F.length with hlt | hge
    · exfalso
      have h1 : (pre ++ [x] ++ t)[pre.length]? = some x := by
        rw [List.append_assoc, List.getElem?_append_right (Nat.le_refl _)]; simp
      rw [ht, List.getElem?_append_left hlt] at h1
      exact hx (List.mem_of_getElem? h1)
    · exact hge
  have h1 : F <+: F ++ R := ⟨R, rfl⟩
  have h2 : pre <+: F ++ R := ⟨[x] ++ t, by rw [← List.append_assoc]; exact ht⟩
  exact List.prefix_of_prefix_length_le h1 h2 hl
theorem core_at {α β : Type} {f : α → β} {l l' : List α} (h : l'.map f = l.map f) {i : Nat} {x : α} (hx : l'[i]? = some x) : ∃ y, l[i]? = some y ∧ f y = f x := by
  have h1 : (l'.map f)[i]? = some (f x) := by rw [List.getElem?_map, hx]; rfl
  rw [h, List.getElem?_map] at h1
  cases hy : l[i]? with
  | none => rw [hy] at h1; cases h1
  | some y => rw [hy] at h1; exact ⟨y, rfl, Option.some.inj h1⟩
theorem share_core {y x : Share} (e : y.core = x.core) : y.id = x.id ∧ y.owner = x.owner ∧ y.dest = x.dest ∧ y.perms = x.perms :=
  ⟨congrArg (fun c => c.1) e, congrArg (fun c => c.2.1) e, congrArg (fun c => c.2.2.1) e, congrArg (fun c => c.2.2.2.1) e⟩
theorem v2_mem {ids : List ByteArray} {sl : List Share} {perm : ByteArray} {own : List Nat} {x : Vis} (h : x ∈ v2 ids sl perm own) : ∃ (q s : Nat) (s1 : Share), q ∈ own ∧ sl[s]? = some s1 ∧ posD ids s1.dest = q ∧ (s1.perms = [] ∨ perm ∈ s1.perms) ∧ x = (posD ids s1.owner, 2, (s : Int)) := by
  obtain ⟨q, hq, hm⟩ := List.mem_flatMap.1 h
  obtain ⟨s, hs, hm⟩ := List.mem_flatMap.1 hm
  unfold vsh at hm
  cases hsh : sl[s]? with
  | none => rw [hsh] at hm; simp at hm
  | some s1 =>
    rw [hsh] at hm
    by_cases hc : cov perm s1.perms = true
    · simp [hc] at hm
      have hkey := (mem_kids.1 hs)
      unfold toKeys at hkey
      rw [List.getElem?_map, hsh] at hkey
      exact ⟨q, s, s1, hq, hsh, Int.ofNat.inj (Option.some.inj hkey), cov_iff.1 hc, hm⟩
    · simp [hc] at hm
theorem key_at {ids : List ByteArray} {sl : List Share} {s : Nat} {s1 : Share} (hs : sl[s]? = some s1) : (toKeys ids sl)[s]? = some ((posD ids s1.dest : Nat) : Int) := by
  unfold toKeys; rw [List.getElem?_map, hs]; rfl
theorem vsh_at {ids : List ByteArray} {sl : List Share} {perm : ByteArray} {s : Nat} {s1 : Share} (hs : sl[s]? = some s1) (hc : s1.perms = [] ∨ perm ∈ s1.perms) : vsh ids sl perm s = [(posD ids s1.owner, 2, (s : Int))] := by
  unfold vsh; rw [hs]; simp [cov_iff.2 hc]
theorem v2_in {ids : List ByteArray} {sl : List Share} {perm : ByteArray} {own : List Nat} {s : Nat} {s1 : Share} (hs : sl[s]? = some s1) (hc : s1.perms = [] ∨ perm ∈ s1.perms) (hd : posD ids s1.dest ∈ own) : (posD ids s1.owner, 2, (s : Int)) ∈ v2 ids sl perm own :=
  List.mem_flatMap.2 ⟨_, hd, List.mem_flatMap.2 ⟨s, mem_kids.2 (key_at hs), by rw [vsh_at hs hc]; simp⟩⟩
theorem vsh_s {ids : List ByteArray} {sl : List Share} {perm : ByteArray} {s' s : Nat} {a : Nat} {c : Int} (h : (a, c, (s : Int)) ∈ vsh ids sl perm s') : s' = s := by
  unfold vsh at h
  cases hsh : sl[s']? with
  | none => rw [hsh] at h; simp at h
  | some s1 =>
    rw [hsh] at h
    by_cases hc : cov perm s1.perms = true
    · simp [hc] at h
      omega
    · simp [hc] at h
/-- What stands ahead of a share. -/
theorem v2_split {ids : List ByteArray} {sl : List Share} {perm : ByteArray} {own : List Nat} (hnd : own.Nodup) {s : Nat} {s1 : Share} (hs : sl[s]? = some s1) (hc : s1.perms = [] ∨ perm ∈ s1.perms) (hd : posD ids s1.dest ∈ own) :
    ∃ F R, v2 ids sl perm own = F ++ R ∧ (posD ids s1.owner, (2 : Int), (s : Int)) ∉ F ∧ ∀ s' y, sl[s']? = some y → (y.perms = [] ∨ perm ∈ y.perms) → posD ids y.dest ∈ own →
      (own.idxOf (posD ids y.dest) < own.idxOf (posD ids s1.dest) ∨ (own.idxOf (posD ids y.dest) = own.idxOf (posD ids s1.dest) ∧ s' < s)) → (posD ids y.owner, (2 : Int), (s' : Int)) ∈ F := by
  have hsl := (List.getElem?_eq_some_iff.1 hs).1
  have hkl : s < (toKeys ids sl).length := (List.getElem?_eq_some_iff.1 (key_at (ids := ids) hs)).1
  refine ⟨(own.take (own.idxOf (posD ids s1.dest))).flatMap (vgr ids sl perm) ++ ((List.range s).filter fun i => decide ((toKeys ids sl)[i]? = some ((posD ids s1.dest : Nat) : Int))).flatMap (vsh ids sl perm),
    ((List.range' s ((toKeys ids sl).length - s)).filter fun i => decide ((toKeys ids sl)[i]? = some ((posD ids s1.dest : Nat) : Int))).flatMap (vsh ids sl perm) ++ (own.drop (own.idxOf (posD ids s1.dest) + 1)).flatMap (vgr ids sl perm), ?_, ?_, ?_⟩
  · show own.flatMap (vgr ids sl perm) = _
    conv => lhs; rw [← List.take_append_drop (own.idxOf (posD ids s1.dest)) own, List.flatMap_append]
    rw [mem_drop_idx hd, List.flatMap_cons]
    conv => lhs; arg 2; arg 1; unfold vgr; rw [kids_split _ _ s hkl, List.flatMap_append]
    simp
  · intro hm
    rcases List.mem_append.1 hm with hm | hm
    · obtain ⟨q, hq, hm⟩ := List.mem_flatMap.1 hm
      obtain ⟨s', hs', hm⟩ := List.mem_flatMap.1 hm
      have := vsh_s hm
      subst this
      have hk := mem_kids.1 hs'
      rw [key_at hs] at hk
      have hqd : posD ids s1.dest = q := Int.ofNat.inj (Option.some.inj hk)
      subst hqd
      have hi : own[own.idxOf (posD ids s1.dest)]? = some (posD ids s1.dest) := by
        rw [List.getElem?_eq_getElem (List.idxOf_lt_length_of_mem hd), List.getElem_idxOf]
      exact not_mem_take hnd hi hq
    · obtain ⟨s', hs', hm⟩ := List.mem_flatMap.1 hm
      have := vsh_s hm
      subst this
      have := List.mem_range.1 (List.mem_filter.1 hs').1
      omega
  · intro s' y hy hcy hdy hlt
    rcases hlt with hlt | ⟨he, hlt⟩
    · refine List.mem_append.2 (Or.inl (List.mem_flatMap.2 ⟨posD ids y.dest, mem_take_idx hlt hdy, List.mem_flatMap.2 ⟨s', mem_kids.2 (key_at hy), by rw [vsh_at hy hcy]; simp⟩⟩))
    · refine List.mem_append.2 (Or.inr (List.mem_flatMap.2 ⟨s', List.mem_filter.2 ⟨List.mem_range.2 hlt, ?_⟩, by rw [vsh_at hy hcy]; simp⟩))
      rw [key_at hy, idx_inj hdy hd he]; simp
theorem dec_ans {os : List Org} {rl : List Role} {ss sl : List Share} {an : List ByteArray} {role perm owner org : ByteArray} {b : Int} {g : ByteArray} {sc : Int} {sh st : ByteArray} (h : DecR os rl sl an role perm owner b g sc sh st) (hsc : sl.map Share.core = ss.map Share.core) (hne : owner ≠ E0) {k : Nat} {r : Role} {scope : Int} (hk : idxTo (rl.map Role.id) (rl.map Role.id).length role = some k) (hr : rl[k]? = some r)
    (hg : permTo r.grants r.grants.length perm = some scope) (hor : r.org = org) (hin : org ∈ os.map Org.id) {p : Nat} (hp : idxTo (os.map Org.id) (os.map Org.id).length owner = some p) : ∃ own, OwnOk (parL os) (posD (os.map Org.id) org) scope own ∧ AnsR os ss an perm org p scope own b g sc sh st := by
  have hO' : ∀ tz own, OwnR os rl role perm tz own → tz = (posD (os.map Org.id) org : Int) ∧ OwnOk (parL os) (posD (os.map Org.id) org) scope own := by
    intro tz own hO
    rcases hO with ⟨k', r', sc', h1, h2, h3, h4, h5⟩ | ⟨h1, _⟩
    · rw [hk] at h1; cases h1
      rw [hr] at h2; cases h2
      rw [hg] at h3; cases h3
      rw [hor] at h4 h5
      exact ⟨h4, h5⟩
    · rw [h1 k r hk hr] at hg; cases hg
  have htl : posD (os.map Org.id) org < (parL os).length := by rw [parL_len]; have := posD_lt hin; rwa [List.length_map] at this
  -- a candidate is handed over
  have hcand : ∀ own, OwnOk (parL os) (posD (os.map Org.id) org) scope own → ∀ (s : Nat) (y : Share), ss[s]? = some y → Cand (parL os) (os.map Org.id) (posD (os.map Org.id) org) scope p perm y → (p, (2 : Int), (s : Int)) ∈ v2 (os.map Org.id) sl perm own := by
    intro own hown s y hy ⟨c1, c2, c3⟩
    obtain ⟨y', hy', e⟩ := core_at hsc.symm hy
    obtain ⟨_, e2, e3, e4⟩ := share_core e
    have := v2_in (ids := os.map Org.id) (own := own) hy' (by rw [e4]; exact c2) (by rw [e3]; exact (hown.reach _).1 c3)
    rw [e2, c1] at this
    exact this
  rcases h with ⟨h, _⟩ | ⟨_, h, _⟩ | ⟨_, p', hp', h⟩
  · exact absurd h hne
  · rw [hp] at h; cases h
  · rw [hp] at hp'; cases hp'
    rcases h with ⟨xs, ⟨tz, own, A, hO, hA, rfl⟩, hno, hb⟩ | ⟨pre, x, ⟨tz, own, A, hO, hA, hpre⟩, hno, hx, hb, hf⟩
    · obtain ⟨htz, hown⟩ := hO' tz own hO
      refine ⟨own, hown, Or.inr ⟨?_, -1, Or.inl ⟨rfl, ?_⟩, Or.inr (Or.inr ⟨rfl, ?_, hb⟩)⟩⟩
      · intro hre
        exact hno (p, 1, 0) (List.mem_append.2 (Or.inl (List.mem_append.2 (Or.inl (List.mem_map.2 ⟨p, (hown.reach p).1 hre, rfl⟩))))) rfl
      · intro s y _ hy hc
        exact hno _ (List.mem_append.2 (Or.inl (List.mem_append.2 (Or.inr (hcand own hown s y hy hc))))) rfl
      · rintro ⟨h1, h2⟩
        rcases hA with ⟨h3 | h3, _⟩ | ⟨_, _, h3⟩
        · rw [htz] at h3; omega
        · exact h3 h1
        · rw [htz] at h3
          have : p ∈ A := (upL_mem A _ h3 p).2 (above_iff.1 h2)
          exact hno (p, 3, 0) (List.mem_append.2 (Or.inr (List.mem_map.2 ⟨p, this, rfl⟩))) rfl
    · obtain ⟨htz, hown⟩ := hO' tz own hO
      have hord := hown.bord htl
      have hfin : (x.2.1 = 1 ∨ x.2.1 = 3) → g = org ∧ sc = scope ∧ sh = E0 ∧ st = E0 := by
        intro h13
        rcases hf with ⟨h2, _⟩ | ⟨_, hs1, hs2, k', r', e1, e2, e3, e4⟩
        · rcases h13 with h | h <;> (rw [h2] at h; exact absurd h (by decide))
        · rw [hk] at e1; cases e1
          rw [hr] at e2; cases e2
          rw [hg] at e4
          exact ⟨e3.trans hor, e4, hs1, hs2⟩
      have hn1 : x.2.1 ≠ 1 → ¬ Reaches (parL os) (posD (os.map Org.id) org) scope p := by
        intro hx1 hre
        rw [List.append_assoc] at hpre
        have h1 := pre_of hpre (fun hm => by obtain ⟨q, _, rfl⟩ := List.mem_map.1 hm; exact hx1 rfl)
        exact hno (p, 1, 0) (h1.subset (List.mem_map.2 ⟨p, (hown.reach p).1 hre, rfl⟩)) rfl
      have hmem : x ∈ v1 own ++ v2 (os.map Org.id) sl perm own ++ v3 A := hpre.subset (by simp)
      refine ⟨own, hown, ?_⟩
      rcases List.mem_append.1 hmem with hm | hm
      · rcases List.mem_append.1 hm with hm | hm
        · obtain ⟨q, hq, rfl⟩ := List.mem_map.1 hm
          obtain ⟨f1, f2, f3, f4⟩ := hfin (Or.inl rfl)
          have hqp : q = p := hx
          subst hqp
          exact Or.inl ⟨(hown.reach q).2 hq, hb, f1, f2, f3, f4⟩
        · obtain ⟨q, s, s1, hq, hs, hd, hc, rfl⟩ := v2_mem hm
          have hxp : posD (os.map Org.id) s1.owner = p := hx
          obtain ⟨y, hy, e⟩ := core_at hsc hs
          obtain ⟨e1, e2, e3, e4⟩ := share_core e
          rcases hf with ⟨_, hg0, hs0, s', s2, k1, k2, k3, k4⟩ | ⟨h13, _⟩
          · have : s = s' := Int.ofNat.inj k1
            subst this
            rw [hs] at k2; cases k2
            have hcy : Cand (parL os) (os.map Org.id) (posD (os.map Org.id) org) scope p perm y := ⟨by rw [e2]; exact hxp, by rw [e4]; exact hc, by rw [e3, hd]; exact (hown.reach q).2 hq⟩
            refine Or.inr ⟨hn1 (show ¬ ((2 : Int) = 1) by decide), (s : Int), Or.inr ⟨s, y, rfl, (List.getElem?_eq_some_iff.1 hy).1, hy, hcy, ?_⟩, Or.inl ⟨s, y, rfl, hy, hb, hg0, hs0, by rw [k3, e1], by rw [k4, e3]⟩⟩
            intro s' z hs'l hz hcz
            obtain ⟨F, R, hF, hxF, hbefore⟩ := v2_split (ids := os.map Org.id) (perm := perm) hord.nd hs hc (by rw [hd]; exact hq)
            obtain ⟨z', hz', ez⟩ := core_at hsc.symm hz
            obtain ⟨z1, z2, z3, z4⟩ := share_core ez
            rcases Nat.lt_trichotomy (own.idxOf (posD (os.map Org.id) y.dest)) (own.idxOf (posD (os.map Org.id) z.dest)) with hl | hl | hl
            · exact Or.inl hl
            · refine Or.inr ⟨hl, ?_⟩
              rcases Nat.lt_or_ge s' s with hlt | hge
              · exfalso
                have hin' := hbefore s' z' hz' (by rw [z4]; exact hcz.2.1) (by rw [z3]; exact (hown.reach _).1 hcz.2.2) (Or.inr ⟨by rw [z3, ← e3]; exact hl.symm, hlt⟩)
                rw [hF, List.append_assoc (v1 own), List.append_assoc F, ← List.append_assoc (v1 own)] at hpre
                have h1 := pre_of hpre (fun hm => by
                  rcases List.mem_append.1 hm with hm | hm
                  · obtain ⟨q', _, e'⟩ := List.mem_map.1 hm
                    have e'' : (1 : Int) = 2 := congrArg (fun v : Vis => v.2.1) e'
                    exact absurd e'' (by decide)
                  · exact hxF hm)
                exact hno _ (h1.subset (List.mem_append.2 (Or.inr hin'))) (show posD (os.map Org.id) z'.owner = p by rw [z2]; exact hcz.1)
              · exact hge
            · exfalso
              have hin' := hbefore s' z' hz' (by rw [z4]; exact hcz.2.1) (by rw [z3]; exact (hown.reach _).1 hcz.2.2) (Or.inl (by rw [z3, ← e3]; exact hl))
              rw [hF, List.append_assoc (v1 own), List.append_assoc F, ← List.append_assoc (v1 own)] at hpre
              have h1 := pre_of hpre (fun hm => by
                rcases List.mem_append.1 hm with hm | hm
                · obtain ⟨q', _, e'⟩ := List.mem_map.1 hm
                  have e'' : (1 : Int) = 2 := congrArg (fun v : Vis => v.2.1) e'
                  exact absurd e'' (by decide)
                · exact hxF hm)
              exact hno _ (h1.subset (List.mem_append.2 (Or.inr hin'))) (show posD (os.map Org.id) z'.owner = p by rw [z2]; exact hcz.1)
          · rcases h13 with h | h
            · exact absurd h (show ¬ ((2 : Int) = 1) by decide)
            · exact absurd h (show ¬ ((2 : Int) = 3) by decide)
      · obtain ⟨q, hq, rfl⟩ := List.mem_map.1 hm
        obtain ⟨f1, f2, f3, f4⟩ := hfin (Or.inr rfl)
        have hqp : q = p := hx
        subst hqp
        rcases hA with rfl | ⟨_, h2, h3⟩
        · cases hq
        · rw [htz] at h3
          have hab := (upL_mem A _ h3 q).1 hq
          rw [← above_iff] at hab
          have h12 := pre_of hpre (fun hm => by
            rcases List.mem_append.1 hm with hm | hm
            · obtain ⟨q', _, e'⟩ := List.mem_map.1 hm
              have e'' : (1 : Int) = 3 := congrArg (fun v : Vis => v.2.1) e'
              exact absurd e'' (by decide)
            · obtain ⟨_, _, _, _, _, _, _, e'⟩ := v2_mem hm
              have e'' : (3 : Int) = 2 := congrArg (fun v : Vis => v.2.1) e'
              exact absurd e'' (by decide))
          refine Or.inr ⟨hn1 (show ¬ ((3 : Int) = 1) by decide), -1, Or.inl ⟨rfl, ?_⟩, Or.inr (Or.inl ⟨rfl, h2, hab, hb, f1, f2, f3, f4⟩)⟩
          intro s y _ hy hc
          exact hno _ (h12.subset (List.mem_append.2 (Or.inr (hcand own hown s y hy hc)))) rfl
end Go.Proofs.Qxb6609292a
