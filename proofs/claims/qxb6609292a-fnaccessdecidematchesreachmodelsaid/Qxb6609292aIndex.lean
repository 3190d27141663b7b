/-
  WALKS for seat b6609292a: indexIDs and indexList at each type (laid by a script of this seat's).
-/
import Derived.Test.Qxb6609292aWorld
set_option linter.unusedVariables false
set_option linter.unusedSimpArgs false
namespace Go.Proofs.Qxb6609292a
open Go.RowKit Go.Maps

theorem RolesM.at {w : World} {ao : Option Addr} {n cap : Nat} {l : List Role} (h : RolesM w (.slice ao n cap) l) {i : Nat} {o : Role} (hi : l[i]? = some o) :
    ∃ b off, ao = some ⟨b, off, none⟩ ∧ w.cell? ⟨b, off + i * 4, none⟩ = some (.string o.id) ∧ w.cell? ⟨b, off + i * 4 + 1, none⟩ = some (.string o.name) ∧ w.cell? ⟨b, off + i * 4 + 2, none⟩ = some (.string o.org) ∧ w.cell? ⟨b, off + i * 4 + 3, none⟩ = some o.gv ∧ okStr o.id ∧ okStr o.name ∧ okStr o.org ∧ (∀ g ∈ o.grants, okStr g.name ∧ wf64 g.scope) ∧ MapAt w o.gv o.grants := by
  obtain ⟨b, off, ha, h3⟩ := h.1.at (i := i) (x := o.row) (by rw [List.getElem?_map, hi]; rfl)
  exact ⟨b, off, ha, h3 0 _ rfl, h3 1 _ rfl, h3 2 _ rfl, h3 3 _ rfl, h.2 o (List.mem_of_getElem? hi)⟩
theorem MapAt.shape {w : World} {mv : Value} {gs : List Grant} (h : MapAt w mv gs) : ∃ m, mv = .map m := by
  rcases h with h | ⟨b, hb, _⟩
  · exact ⟨none, h.1⟩
  · exact ⟨some b, hb⟩
theorem idx_fresh {ids : List ByteArray} (h : ids.Nodup) {k : Nat} {s : ByteArray} (hk : ids[k]? = some s) : idxTo ids k s = none := by
  have hlt := (List.getElem?_eq_some_iff.1 hk).1
  rw [idx_none k s (by omega)]
  intro hm
  obtain ⟨i, hi, e⟩ := List.mem_iff_getElem.1 hm
  simp only [List.length_take] at hi
  rw [List.getElem_take] at e
  have e2 : ids[k] = s := (List.getElem?_eq_some_iff.1 hk).2
  exact (List.pairwise_iff_getElem.1 h) i k (by omega) hlt (by omega) (e.trans e2.symm)


set_option maxRecDepth 100000 in
theorem id50_any (a0 a1 a2 : Value) (s : ByteArray) (w : World) (h0 : a0 = .string s) (h1 : a1.oneCell' = true) (h2 : a2.oneCell' = true) :
    Calls Try.prog 51 #[.agg #[a0, a1, a2]] w fun e w' => e = .returned (.string s) ∧ Ext w w' := by
  subst h0
  go_enter Try.func51, Try.ntmps51
  go_wp2
  go_ret
  exact ⟨rfl, Ext.alloc _ _⟩

set_option maxRecDepth 100000 in
set_option maxHeartbeats 1600000 in
theorem indexOrgs_any (v : Value) (l : List Org) (w : World) (h : OrgsAt w v l) (hn : l.length ≤ 1048576) (hids : IdsOk (l.map Org.id)) :
    Calls Try.prog 50 #[v, .func (.func 51) #[] #[]] w fun e w' => ∃ b, e = .returned (.tuple #[.map (some b), .int .i64 (-1), .int .i64 0]) ∧ SM w' 3 b l.length (posF (l.map Org.id) (l.map Org.id).length) ∧ Ext w w' := by
  obtain ⟨ao, cap, rfl, hcap⟩ := h.shape
  have hmm := run_makeMap_hint 58 9 3 Try.underlying58
  go_enter Try.func50, Try.ntmps50
  go_wp2_with fail
  go_loopw [18] (fun j wr => ∃ k : Nat, j = .int .i64 k ∧ k ≤ l.length ∧ SM wr 3 w.heap.size k (posF (l.map Org.id) k) ∧ Ext w wr) (fun i _ => l.length - (intOf i).toNat)
  case atStart => exact ⟨0, rfl, Nat.zero_le _, SM.made w 3, Ext.alloc _ _⟩
  case round =>
    obtain ⟨k, rfl, hk, hsm, he⟩ := hrel
    clear hmm
    by_cases hlt : k < l.length
    · obtain ⟨o, ho⟩ := get_at l k hlt
      obtain ⟨b, off, rfl, c0, c1, c2, ok⟩ := h.at ho
      skip
      have d0 := he.cell c0; have d1 := he.cell c1; have d2 := he.cell c2
      have HO : Hid ((l.map Org.id)[k]? = some o.id) := by show _ = _; rw [List.getElem?_map, ho]; rfl
      have hne : o.id ≠ ⟨#[]⟩ := hids.2 _ (List.mem_of_getElem? HO.out)
      rcases str_empty o.id with ⟨e1, e2⟩ | ⟨e1, e2⟩
      · exact absurd e2.out hne
      have hfr := idx_fresh hids.1 HO.out
      have hids' : Hid (IdsOk (l.map Org.id)) := hids
      have hlk := fun (wn : World) (hx : Ext wr wn) => (hsm.ext hx).nopos (ok.1) hfr
      clear ho c0 c1 c2 hids hfr hne
      go_wp2_with (first
        | (go_at_call 51; refine (id50_any _ _ _ o.id _ rfl rfl rfl).mono ?_; rintro e wc ⟨rfl, hec⟩; have hx := (Ext.alloc wr _).trans hec; have hsm1 := hsm.ext hx; have he1 := he.trans hx; have hlk1 := hlk wc hx; clear hlk)
        | (at_mapUpdate; refine wpList_put _ rfl _ _ _ rfl Try.underlying58 w.heap.size k _ rfl hsm1 (by unfold maxLen; omega) _ rfl (ok.1) _ rfl (plain3 k (by omega)) ?_; intro w1 hsm2 hgrow1))
      go_roundw
      case rel => exact ⟨k + 1, by go_num, by omega, by rw [← posF_succ _ _ _ HO.out]; exact hsm2, ext_st he1 hgrow1 (Nat.le_refl _)⟩
      case measure => simp [intOf]; omega
    · obtain rfl : k = l.length := by omega
      go_wp2
      go_ret3
      exact ⟨_, rfl, by simpa using hsm, he⟩


set_option maxRecDepth 100000 in
theorem id55_any (a0 a1 a2 a3 : Value) (s : ByteArray) (w : World) (h0 : a0 = .string s) (h1 : a1.oneCell' = true) (h2 : a2.oneCell' = true) (h3 : a3.oneCell' = true) :
    Calls Try.prog 29 #[.agg #[a0, a1, a2, a3]] w fun e w' => e = .returned (.string s) ∧ Ext w w' := by
  subst h0
  go_enter Try.func29, Try.ntmps29
  go_wp2
  go_ret
  exact ⟨rfl, Ext.alloc _ _⟩

set_option maxRecDepth 100000 in
set_option maxHeartbeats 1600000 in
theorem indexRoles_any (v : Value) (l : List Role) (w : World) (h : RolesM w v l) (hn : l.length ≤ 1048576) (hids : IdsOk (l.map Role.id)) :
    Calls Try.prog 55 #[v, .func (.func 29) #[] #[]] w fun e w' => ∃ b, e = .returned (.tuple #[.map (some b), .int .i64 (-1), .int .i64 0]) ∧ SM w' 3 b l.length (posF (l.map Role.id) (l.map Role.id).length) ∧ Ext w w' := by
  obtain ⟨ao, cap, rfl, hcap⟩ := h.shape
  have hmm := run_makeMap_hint 58 9 3 Try.underlying58
  go_enter Try.func55, Try.ntmps55
  go_wp2_with fail
  go_loopw [18] (fun j wr => ∃ k : Nat, j = .int .i64 k ∧ k ≤ l.length ∧ SM wr 3 w.heap.size k (posF (l.map Role.id) k) ∧ Ext w wr) (fun i _ => l.length - (intOf i).toNat)
  case atStart => exact ⟨0, rfl, Nat.zero_le _, SM.made w 3, Ext.alloc _ _⟩
  case round =>
    obtain ⟨k, rfl, hk, hsm, he⟩ := hrel
    clear hmm
    by_cases hlt : k < l.length
    · obtain ⟨o, ho⟩ := get_at l k hlt
      obtain ⟨b, off, rfl, c0, c1, c2, c3, ok⟩ := h.at ho
      obtain ⟨mm, hmv⟩ := ok.2.2.2.2.shape; rw [hmv] at c3; clear hmv
      have d0 := he.cell c0; have d1 := he.cell c1; have d2 := he.cell c2; have d3 := he.cell c3
      have HO : Hid ((l.map Role.id)[k]? = some o.id) := by show _ = _; rw [List.getElem?_map, ho]; rfl
      have hne : o.id ≠ ⟨#[]⟩ := hids.2 _ (List.mem_of_getElem? HO.out)
      rcases str_empty o.id with ⟨e1, e2⟩ | ⟨e1, e2⟩
      · exact absurd e2.out hne
      have hfr := idx_fresh hids.1 HO.out
      have hids' : Hid (IdsOk (l.map Role.id)) := hids
      have hlk := fun (wn : World) (hx : Ext wr wn) => (hsm.ext hx).nopos (ok.1) hfr
      clear ho c0 c1 c2 c3 hids hfr hne
      go_wp2_with (first
        | (go_at_call 29; refine (id55_any _ _ _ _ o.id _ rfl rfl rfl rfl).mono ?_; rintro e wc ⟨rfl, hec⟩; have hx := (Ext.alloc wr _).trans hec; have hsm1 := hsm.ext hx; have he1 := he.trans hx; have hlk1 := hlk wc hx; clear hlk)
        | (at_mapUpdate; refine wpList_put _ rfl _ _ _ rfl Try.underlying58 w.heap.size k _ rfl hsm1 (by unfold maxLen; omega) _ rfl (ok.1) _ rfl (plain3 k (by omega)) ?_; intro w1 hsm2 hgrow1))
      go_roundw
      case rel => exact ⟨k + 1, by go_num, by omega, by rw [← posF_succ _ _ _ HO.out]; exact hsm2, ext_st he1 hgrow1 (Nat.le_refl _)⟩
      case measure => simp [intOf]; omega
    · obtain rfl : k = l.length := by omega
      go_wp2
      go_ret3
      exact ⟨_, rfl, by simpa using hsm, he⟩


set_option maxRecDepth 100000 in
theorem id56_any (a0 a1 : Value) (s : ByteArray) (w : World) (h0 : a0 = .string s) (h1 : a1.oneCell' = true) :
    Calls Try.prog 31 #[.agg #[a0, a1]] w fun e w' => e = .returned (.string s) ∧ Ext w w' := by
  subst h0
  go_enter Try.func31, Try.ntmps31
  go_wp2
  go_ret
  exact ⟨rfl, Ext.alloc _ _⟩

set_option maxRecDepth 100000 in
set_option maxHeartbeats 1600000 in
theorem indexUsers_any (v : Value) (l : List User) (w : World) (h : UsersAt w v l) (hn : l.length ≤ 1048576) (hids : IdsOk (l.map User.id)) :
    Calls Try.prog 56 #[v, .func (.func 31) #[] #[]] w fun e w' => ∃ b, e = .returned (.tuple #[.map (some b), .int .i64 (-1), .int .i64 0]) ∧ SM w' 3 b l.length (posF (l.map User.id) (l.map User.id).length) ∧ Ext w w' := by
  obtain ⟨ao, cap, rfl, hcap⟩ := h.shape
  have hmm := run_makeMap_hint 58 9 3 Try.underlying58
  go_enter Try.func56, Try.ntmps56
  go_wp2_with fail
  go_loopw [18] (fun j wr => ∃ k : Nat, j = .int .i64 k ∧ k ≤ l.length ∧ SM wr 3 w.heap.size k (posF (l.map User.id) k) ∧ Ext w wr) (fun i _ => l.length - (intOf i).toNat)
  case atStart => exact ⟨0, rfl, Nat.zero_le _, SM.made w 3, Ext.alloc _ _⟩
  case round =>
    obtain ⟨k, rfl, hk, hsm, he⟩ := hrel
    clear hmm
    by_cases hlt : k < l.length
    · obtain ⟨o, ho⟩ := get_at l k hlt
      obtain ⟨b, off, rfl, c0, c1, ok⟩ := h.at ho
      obtain ⟨sa, sc, hsv, hsc⟩ := ok.2.shape; rw [hsv] at c1; clear hsv hsc
      have d0 := he.cell c0; have d1 := he.cell c1
      have HO : Hid ((l.map User.id)[k]? = some o.id) := by show _ = _; rw [List.getElem?_map, ho]; rfl
      have hne : o.id ≠ ⟨#[]⟩ := hids.2 _ (List.mem_of_getElem? HO.out)
      rcases str_empty o.id with ⟨e1, e2⟩ | ⟨e1, e2⟩
      · exact absurd e2.out hne
      have hfr := idx_fresh hids.1 HO.out
      have hids' : Hid (IdsOk (l.map User.id)) := hids
      have hlk := fun (wn : World) (hx : Ext wr wn) => (hsm.ext hx).nopos (ok.1) hfr
      clear ho c0 c1 hids hfr hne
      go_wp2_with (first
        | (go_at_call 31; refine (id56_any _ _ o.id _ rfl rfl).mono ?_; rintro e wc ⟨rfl, hec⟩; have hx := (Ext.alloc wr _).trans hec; have hsm1 := hsm.ext hx; have he1 := he.trans hx; have hlk1 := hlk wc hx; clear hlk)
        | (at_mapUpdate; refine wpList_put _ rfl _ _ _ rfl Try.underlying58 w.heap.size k _ rfl hsm1 (by unfold maxLen; omega) _ rfl (ok.1) _ rfl (plain3 k (by omega)) ?_; intro w1 hsm2 hgrow1))
      go_roundw
      case rel => exact ⟨k + 1, by go_num, by omega, by rw [← posF_succ _ _ _ HO.out]; exact hsm2, ext_st he1 hgrow1 (Nat.le_refl _)⟩
      case measure => simp [intOf]; omega
    · obtain rfl : k = l.length := by omega
      go_wp2
      go_ret3
      exact ⟨_, rfl, by simpa using hsm, he⟩


set_option maxRecDepth 100000 in
theorem id57_any (a0 a1 a2 a3 a4 : Value) (s : ByteArray) (w : World) (h0 : a0 = .string s) (h1 : a1.oneCell' = true) (h2 : a2.oneCell' = true) (h3 : a3.oneCell' = true) (h4 : a4.oneCell' = true) :
    Calls Try.prog 33 #[.agg #[a0, a1, a2, a3, a4]] w fun e w' => e = .returned (.string s) ∧ Ext w w' := by
  subst h0
  go_enter Try.func33, Try.ntmps33
  go_wp2
  go_ret
  exact ⟨rfl, Ext.alloc _ _⟩

set_option maxRecDepth 100000 in
set_option maxHeartbeats 1600000 in
theorem indexShs_any (v : Value) (l : List Share) (w : World) (h : SharesAt w v l) (hn : l.length ≤ 1048576) (hids : IdsOk (l.map Share.id)) :
    Calls Try.prog 57 #[v, .func (.func 33) #[] #[]] w fun e w' => ∃ b, e = .returned (.tuple #[.map (some b), .int .i64 (-1), .int .i64 0]) ∧ SM w' 3 b l.length (posF (l.map Share.id) (l.map Share.id).length) ∧ Ext w w' := by
  obtain ⟨ao, cap, rfl, hcap⟩ := h.shape
  have hmm := run_makeMap_hint 58 9 3 Try.underlying58
  go_enter Try.func57, Try.ntmps57
  go_wp2_with fail
  go_loopw [18] (fun j wr => ∃ k : Nat, j = .int .i64 k ∧ k ≤ l.length ∧ SM wr 3 w.heap.size k (posF (l.map Share.id) k) ∧ Ext w wr) (fun i _ => l.length - (intOf i).toNat)
  case atStart => exact ⟨0, rfl, Nat.zero_le _, SM.made w 3, Ext.alloc _ _⟩
  case round =>
    obtain ⟨k, rfl, hk, hsm, he⟩ := hrel
    clear hmm
    by_cases hlt : k < l.length
    · obtain ⟨o, ho⟩ := get_at l k hlt
      obtain ⟨b, off, rfl, c0, c1, c2, c3, c4, ok⟩ := h.at ho
      obtain ⟨sa, sc, hsv, hsc⟩ := ok.2.2.2.2.shape; rw [hsv] at c3; clear hsv hsc
      have d0 := he.cell c0; have d1 := he.cell c1; have d2 := he.cell c2; have d3 := he.cell c3; have d4 := he.cell c4
      have HO : Hid ((l.map Share.id)[k]? = some o.id) := by show _ = _; rw [List.getElem?_map, ho]; rfl
      have hne : o.id ≠ ⟨#[]⟩ := hids.2 _ (List.mem_of_getElem? HO.out)
      rcases str_empty o.id with ⟨e1, e2⟩ | ⟨e1, e2⟩
      · exact absurd e2.out hne
      have hfr := idx_fresh hids.1 HO.out
      have hids' : Hid (IdsOk (l.map Share.id)) := hids
      have hlk := fun (wn : World) (hx : Ext wr wn) => (hsm.ext hx).nopos (ok.1) hfr
      clear ho c0 c1 c2 c3 c4 hids hfr hne
      go_wp2_with (first
        | (go_at_call 33; refine (id57_any _ _ _ _ _ o.id _ rfl rfl rfl rfl rfl).mono ?_; rintro e wc ⟨rfl, hec⟩; have hx := (Ext.alloc wr _).trans hec; have hsm1 := hsm.ext hx; have he1 := he.trans hx; have hlk1 := hlk wc hx; clear hlk)
        | (at_mapUpdate; refine wpList_put _ rfl _ _ _ rfl Try.underlying58 w.heap.size k _ rfl hsm1 (by unfold maxLen; omega) _ rfl (ok.1) _ rfl (plain3 k (by omega)) ?_; intro w1 hsm2 hgrow1))
      go_roundw
      case rel => exact ⟨k + 1, by go_num, by omega, by rw [← posF_succ _ _ _ HO.out]; exact hsm2, ext_st he1 hgrow1 (Nat.le_refl _)⟩
      case measure => simp [intOf]; omega
    · obtain rfl : k = l.length := by omega
      go_wp2
      go_ret3
      exact ⟨_, rfl, by simpa using hsm, he⟩

end Go.Proofs.Qxb6609292a
