/-
  WALKS for seat b6609292a: hasCycle.
-/
import Derived.Test.Qxb6609292aWalkC
import Derived.Deep.LoopGhost
import Derived.Laws.AppendOwn
set_option linter.unusedVariables false
namespace Go.Proofs.Qxb6609292a
open Go.RowKit Go.Maps

/-! ### one number pushed onto a slice of numbers -/
theorem wpList_push (w0 : World) {ops : Array Oper} {rest : List Oper} {o : Oper} {a : Act} {Q : Exit → Act → World → Prop}
    (hgd : o.guard = none) (s x : Operand) (hop : o.op = .call { callee := .builtin .append, args := #[s, x], argTypes := #[66, 66] })
    (base : Nat) (v : Value) (n : Nat) (xs : List Value) (u : Value) (hs : a.eval s = v) (hown : w0.ownsRow base 3 1 v n xs) (hx : a.eval x = .slice (some ⟨w0.heap.size, 0, none⟩) 1 1) (h1 : u.oneCell' = true)
    (hn : n ≤ 1048577) (hbase : base ≤ w0.heap.size)
    (hK : ∀ g cap w', w'.ownsRow base 3 1 (.slice (some ⟨g, 0, none⟩) (n + 1) cap) (n + 1) (xs ++ [u]) → w0.grownBy w' v.ownBlock → wpList Try.prog ops Q rest (a.put o.dst (.slice (some ⟨g, 0, none⟩) (n + 1) cap)) w') :
    wpList Try.prog ops Q (o :: rest) a (w0.alloc (.cells #[u] 3)) := by
  obtain ⟨i0, hi, hz0, hz1, hz2⟩ := info_parts Try.infos3
  refine wpList_append_own _ hgd s x 66 hop base 3 i0 (.int .i64 0) 1 8 Try.underlying66 hi hz0 hz1 hz2 rfl (by decide) v n xs hs (hown.alloc _) ⟨w0.heap.size, 0, none⟩ 1 1 [u] hx rfl ?_ (by intro y hy; simp at hy; subst hy; exact h1) (by unfold maxLen; omega) (by omega) (by simp; omega) ?_
  · intro j y hj
    match j, hj with
    | 0, hj => simp at hj; subst hj; simp [Addr.add]
  · intro v' w' hown' hg' _
    rcases hown'.2 with ⟨_, h0⟩ | ⟨g, cap, cur, hv, hb, hg, hnc, hcm, _⟩
    · omega
    · subst hv
      exact hK g cap w' hown' ((World.grownBy_alloc w0 _ _).trans hg')
/-- A slice of numbers, emptied. -/
theorem own_reset {w : World} {base e g n cap : Nat} {xs : List Value} (h : w.ownsRow base e 1 (.slice (some ⟨g, 0, none⟩) n cap) n xs) : w.ownsRow base e 1 (.slice (some ⟨g, 0, none⟩) 0 cap) 0 [] := by
  rcases h.2 with ⟨h', _⟩ | ⟨g', cap', cur, h', hb, hg, hnc, hcm, hcs, htake⟩
  · simp at h'
  · simp only [Value.slice.injEq, Option.some.injEq, Addr.mk.injEq, and_true, true_and] at h'
    obtain ⟨rfl, rfl⟩ := h'
    exact ⟨rfl, .inr ⟨g, cap, cur, rfl, hb, hg, Nat.zero_le _, hcm, hcs, by simp⟩⟩
theorem own_ge {w : World} {base e g n m cap : Nat} {xs : List Value} (h : w.ownsRow base e 1 (.slice (some ⟨g, 0, none⟩) n cap) m xs) : base ≤ g ∧ g < w.heap.size := h.lt g rfl

/-! ### chains of parents -/
def par (P : List Int) (z : Int) : Int := if z < 0 then -1 else (P[z.toNat]?).getD (-1)
def up (P : List Int) : Nat → Int → Int
  | 0, z => z
  | m + 1, z => up P m (par P z)
def Ends (P : List Int) (z : Int) : Prop := ∃ m, up P m z < 0
theorem ends_neg (P : List Int) : Ends P (-1) := ⟨0, by simp [up]⟩
theorem ends_par {P : List Int} {z : Int} (h : Ends P (par P z)) : Ends P z := by
  obtain ⟨m, hm⟩ := h; exact ⟨m + 1, hm⟩
theorem par_at {P : List Int} {q : Nat} {z : Int} (h : P[q]? = some z) : par P q = z := by
  unfold par; rw [if_neg (by omega)]; simp [h]
/-- Each number is -1 or a place of the list. -/
def Rng (P : List Int) : Prop := ∀ (q : Nat) (z : Int), P[q]? = some z → z = -1 ∨ ∃ p : Nat, z = p ∧ p < P.length

def cnt (st : List Int) : Nat := st.count 0
theorem cnt_set {st : List Int} {q : Nat} (h : st[q]? = some 0) : cnt (st.set q 1) + 1 = cnt st := by
  have hq : q < st.length := (List.getElem?_eq_some_iff.1 h).1
  have e : st[q] = 0 := (List.getElem?_eq_some_iff.1 h).2
  unfold cnt
  rw [List.count_set hq, e]
  have : 0 < st.count 0 := List.count_pos_iff.2 (by rw [← e]; exact List.getElem_mem hq)
  simp
  omega
theorem set_get {α : Type} {l : List α} {q r : Nat} {a x : α} (h : (l.set q a)[r]? = some x) : (r = q ∧ x = a) ∨ (r ≠ q ∧ l[r]? = some x) := by
  rw [List.getElem?_set] at h
  by_cases e : q = r
  · rw [if_pos e] at h
    left
    split at h
    · exact ⟨e.symm, (Option.some.inj h).symm⟩
    · cases h
  · rw [if_neg e] at h; exact Or.inr ⟨fun e' => e e'.symm, h⟩
theorem map_set_iI (st : List Int) (q : Nat) (z : Int) : (st.map iI).set q (.int .i64 z) = (st.set q z).map iI := by rw [List.map_set]; rfl
theorem cell_iI {w : World} {g : Nat} {st : List Int} (h : Blk w g (st.map iI)) {q : Nat} {z : Int} (hq : st[q]? = some z) : w.cell? ⟨g, q, none⟩ = some (.int .i64 z) := h.cell (by rw [List.getElem?_map, hq]; rfl)
def dom3 (st : List Int) : Prop := ∀ (q : Nat) (z : Int), st[q]? = some z → z = 0 ∨ z = 1 ∨ z = 2
theorem dom3_set {st : List Int} (h : dom3 st) (q : Nat) (z : Int) (hz : z = 0 ∨ z = 1 ∨ z = 2) : dom3 (st.set q z) := by
  intro r x hr
  rcases set_get hr with ⟨_, rfl⟩ | ⟨_, h2⟩
  · exact hz
  · exact h r x h2

def OutI (P st : List Int) (i : Nat) : Prop :=
  st.length = P.length ∧ (∀ (q : Nat) (z : Int), st[q]? = some z → z = 0 ∨ z = 2) ∧ (∀ q : Nat, st[q]? = some 2 → Ends P q) ∧ ∀ q : Nat, q < i → st[q]? = some 2
def InI (P st : List Int) (i : Nat) (js : List Int) (j : Int) : Prop :=
  st.length = P.length ∧ dom3 st ∧ (∀ q : Nat, st[q]? = some 2 → Ends P q) ∧ (∀ q : Nat, q < i → st[q]? = some 2) ∧ (∀ q : Nat, st[q]? = some 1 → (q : Int) ∈ js) ∧
  (Ends P j → ∀ a ∈ js, Ends P a) ∧ ((i : Int) ∈ js ∨ j = i) ∧ (∀ a ∈ js, ∃ q : Nat, a = q ∧ q < P.length) ∧ js.length + cnt st ≤ P.length ∧ (j = -1 ∨ ∃ q : Nat, j = q ∧ q < P.length)
def MkI (P st : List Int) (i : Nat) (js : List Int) (k : Nat) : Prop :=
  st.length = P.length ∧ dom3 st ∧ (∀ q : Nat, st[q]? = some 2 → Ends P q) ∧ (∀ q : Nat, q < i → st[q]? = some 2) ∧ (∀ q : Nat, st[q]? = some 1 → (q : Int) ∈ js.drop k) ∧
  (∀ a ∈ js, Ends P a) ∧ ((i : Int) ∈ js.drop k ∨ st[i]? = some 2) ∧ (∀ a ∈ js, ∃ q : Nat, a = q ∧ q < P.length) ∧ i < P.length
theorem OutI.start (P : List Int) : OutI P (List.replicate P.length 0) 0 := by
  refine ⟨by simp, ?_, ?_, fun q hq => absurd hq (Nat.not_lt_zero _)⟩
  · intro q z h
    rw [List.getElem?_replicate] at h
    split at h
    · simp at h; omega
    · cases h
  · intro q h
    rw [List.getElem?_replicate] at h
    split at h
    · simp at h
    · cases h
theorem OutI.enter {P st : List Int} {i : Nat} (h : OutI P st i) (hi : i < P.length) : InI P st i [] i := by
  obtain ⟨h1, h2, h3, h4⟩ := h
  refine ⟨h1, fun q z hq => ?_, h3, h4, fun q hq => ?_, by simp, Or.inr rfl, by simp, ?_, Or.inr ⟨i, rfl, hi⟩⟩
  · rcases h2 q z hq with h | h
    · exact Or.inl h
    · exact Or.inr (Or.inr h)
  · rcases h2 q 1 hq with h | h <;> omega
  · have := List.count_le_length (a := (0 : Int)) (l := st)
    unfold cnt; simp; omega
theorem InI.step {P st : List Int} {i q : Nat} {js : List Int} {z : Int} (h : InI P st i js q) (hR : Rng P) (h0 : st[q]? = some 0) (hz : P[q]? = some z) : InI P (st.set q 1) i (js ++ [(q : Int)]) z := by
  obtain ⟨h1, h2, h3, h4, h5, h6, h7, h8, h9, h10⟩ := h
  refine ⟨by simpa using h1, dom3_set h2 q 1 (by simp), fun r hr => ?_, fun r hr => ?_, fun r hr => ?_, fun he a ha => ?_, Or.inl ?_, fun a ha => ?_, ?_, ?_⟩
  · rcases set_get hr with ⟨_, h⟩ | ⟨_, h⟩
    · omega
    · exact h3 r h
  · have := h4 r hr
    rw [List.getElem?_set_ne]; exact this
    intro e; subst e; rw [h0] at this; simp at this
  · rcases set_get hr with ⟨rfl, h⟩ | ⟨_, h⟩
    · simp
    · simp [h5 r h]
  · have hq : Ends P q := ends_par (by rw [par_at hz]; exact he)
    rcases List.mem_append.1 ha with h | h
    · exact h6 hq a h
    · simp at h; rw [h]; exact hq
  · rcases h7 with h | h
    · simp [h]
    · simp [h]
  · rcases List.mem_append.1 ha with h | h
    · exact h8 a h
    · simp at h; rw [h]; exact ⟨q, rfl, (List.getElem?_eq_some_iff.1 hz).1⟩
  · have := cnt_set h0
    simp; omega
  · exact hR q z hz
theorem InI.mark {P st : List Int} {i : Nat} {js : List Int} {j : Int} (h : InI P st i js j) (hi : i < P.length) (hj : j = -1 ∨ ∃ q : Nat, j = q ∧ st[q]? = some 2) : MkI P st i js 0 := by
  obtain ⟨h1, h2, h3, h4, h5, h6, h7, h8, h9, h10⟩ := h
  refine ⟨h1, h2, h3, h4, fun q hq => by simpa using h5 q hq, ?_, ?_, h8, hi⟩
  · apply h6
    rcases hj with h | ⟨q, h, hq⟩
    · rw [h]; exact ends_neg P
    · rw [h]; exact h3 q hq
  · rcases h7 with h | h
    · left; simpa using h
    · rcases hj with h' | ⟨q, h', hq⟩
      · omega
      · right
        have : q = i := by omega
        rw [← this]; exact hq
theorem MkI.step {P st : List Int} {i k q : Nat} {js : List Int} (h : MkI P st i js k) (hq : js[k]? = some (q : Int)) : MkI P (st.set q 2) i js (k + 1) := by
  obtain ⟨h1, h2, h3, h4, h5, h6, h7, h8, hi⟩ := h
  have hd : js.drop k = (q : Int) :: js.drop (k + 1) := by
    have hk := (List.getElem?_eq_some_iff.1 hq).1
    rw [List.drop_eq_getElem_cons hk, (List.getElem?_eq_some_iff.1 hq).2]
  have hql : q < st.length := by
    obtain ⟨q', e, hq'⟩ := h8 q (List.mem_of_getElem? hq)
    omega
  have hself : (st.set q 2)[q]? = some 2 := by rw [List.getElem?_set_self hql]
  refine ⟨by simpa using h1, dom3_set h2 q 2 (by simp), fun r hr => ?_, fun r hr => ?_, fun r hr => ?_, h6, ?_, h8, hi⟩
  · rcases set_get hr with ⟨rfl, h⟩ | ⟨_, h⟩
    · exact h6 _ (List.mem_of_getElem? hq)
    · exact h3 r h
  · by_cases e : r = q
    · rw [e]; exact hself
    · rw [List.getElem?_set_ne (fun e' => e e'.symm)]; exact h4 r hr
  · rcases set_get hr with ⟨rfl, h⟩ | ⟨hne, h⟩
    · omega
    · have := h5 r h
      rw [hd] at this
      rcases List.mem_cons.1 this with h' | h'
      · omega
      · exact h'
  · by_cases e : i = q
    · right; rw [e]; exact hself
    · rcases h7 with h | h
      · rw [hd] at h
        rcases List.mem_cons.1 h with h' | h'
        · omega
        · exact Or.inl h'
      · right; rw [List.getElem?_set_ne (fun e' => e e'.symm)]; exact h
theorem MkI.done {P st : List Int} {i : Nat} {js : List Int} (h : MkI P st i js js.length) : OutI P st (i + 1) := by
  obtain ⟨h1, h2, h3, h4, h5, h6, h7, h8, hi⟩ := h
  rw [List.drop_length] at h5 h7
  refine ⟨h1, fun q z hq => ?_, h3, fun q hq => ?_⟩
  · rcases h2 q z hq with h | h | h
    · exact Or.inl h
    · rw [h] at hq; exact absurd (h5 q hq) (by simp)
    · exact Or.inr h
  · by_cases e : q = i
    · rcases h7 with h | h
      · cases h
      · rw [e]; exact h
    · exact h4 q (by omega)

set_option maxRecDepth 100000 in
set_option maxHeartbeats 3200000 in
theorem hasCycle_any (P : List Int) (g0 : Nat) (w : World) (hP : Blk w g0 (P.map iI)) (hR : Rng P) (hn : P.length ≤ 1048576) :
    Calls Try.prog 26 #[.slice (some ⟨g0, 0, none⟩) P.length P.length] w fun e w' => ∃ b : Bool, (b = false → ∀ q : Nat, q < P.length → Ends P q) ∧ e = .returned (.bool b) ∧ Ext w w' := by
  obtain ⟨i0, hi, hz0, hz1, hz2⟩ := info_parts Try.infos3
  go_enter Try.func26, Try.ntmps26
  go_wp2_with (first
    | (at_make; refine wpList_mk _ rfl _ _ 66 rfl 3 (.int .i64 0) 1 8 Try.underlying66 Try.infos3 P.length rfl rfl (by omega) (by omega) ?_; intro w0 hb0 hg0; rw [made_one _ rfl] at hb0; have he0 : Ext w w0 := grown_ext (Ext.refl w) hg0 (by simp))
    | (at_make; refine wpList_make_own _ rfl _ _ 66 rfl w0.heap.size 3 i0 (.int .i64 0) 1 Try.underlying66 hi hz0 hz1 .i64 .i64 _ P.length rfl rfl rfl (by rw [hz2]; omega) (by unfold maxLen; omega) (Nat.le_refl _) ?_; intro w1 hown1 hg1; have he1 : Ext w w1 := grown_ext he0 hg1 (by simp); have hb1 := hb0.kept hg1 (by simp)))
  have hlt0 := hb0.lt
  rw [show List.replicate P.length (Value.int .i64 0) = (List.replicate P.length (0 : Int)).map iI by rw [List.map_replicate]; rfl] at hb1
  clear hb0 hi hz0 hz1 hz2 i0
  go_loopw [5, 6] (fun pv iv wr => ∃ (i g cap m : Nat) (xs : List Value) (st : List Int), iv = .int .i64 i ∧ i ≤ P.length ∧ pv = .slice (some ⟨g, 0, none⟩) m cap ∧ wr.ownsRow w0.heap.size 3 1 (.slice (some ⟨g, 0, none⟩) m cap) m xs ∧
      Blk wr w.heap.size (st.map iI) ∧ OutI P st i ∧ Ext w wr) (fun _ i _ => P.length - (intOf i).toNat)
  case atStart => exact ⟨0, w0.heap.size, P.length, 0, [], _, rfl, Nat.zero_le _, rfl, hown1, hb1, OutI.start P, he1⟩
  case round =>
    obtain ⟨i, gA, capA, m, xs, stA, rfl, hi, rfl, hown, hb, hout, he⟩ := hrel
    clear hown1 hb1 hg1 he1
    have hge := own_ge hown
    by_cases hlt : i < P.length
    · have hin := hout.enter hlt
      have hown' := own_reset hown
      clear hout hown
      rename World => WO
      go_wp2_with fail
      go_loopg [5, 7] (cnt stA) (fun gk pv jv wr => ∃ (g cap : Nat) (js : List Int) (j : Int) (st : List Int), pv = .slice (some ⟨g, 0, none⟩) js.length cap ∧ jv = .int .i64 j ∧ wr.ownsRow w0.heap.size 3 1 (.slice (some ⟨g, 0, none⟩) js.length cap) js.length (js.map iI) ∧
          Blk wr w.heap.size (st.map iI) ∧ InI P st i js j ∧ Hid (gk = cnt st) ∧ Ext w wr)
      case atStart => exact ⟨gA, capA, [], i, stA, rfl, rfl, hown', hb, hin, rfl, he⟩
      case round =>
        clear hown' hb hin he hge
        obtain ⟨g, cap, js, j, st, rfl, rfl, hown, hb, hin, hgk, he⟩ := hrel
        have hge := own_ge hown
        have hj := hin.2.2.2.2.2.2.2.2.2
        have hst := hin.1
        have hjs : js.length ≤ 1048576 := by have := hin.2.2.2.2.2.2.2.2.1; omega
        rcases hj with rfl | ⟨q, rfl, hq⟩
        · have hmk := hin.mark hlt (Or.inl rfl)
          clear hin hgk
          go_wp2_with fail
          go_loopw [8] (fun kv wr => ∃ (k : Nat) (st : List Int), kv = .int .i64 k ∧ k ≤ js.length ∧ wr.ownsRow w0.heap.size 3 1 (.slice (some ⟨g, 0, none⟩) js.length cap) js.length (js.map iI) ∧ Blk wr w.heap.size (st.map iI) ∧ MkI P st i js k ∧ Ext w wr) (fun k _ => js.length - (intOf k).toNat)
          case atStart => exact ⟨0, st, rfl, Nat.zero_le _, hown, hb, hmk, he⟩
          case round =>
            clear hown hb hmk he
            obtain ⟨k, st, rfl, hk, hown, hb, hmk, he⟩ := hrel
            have hge := own_ge hown
            by_cases hlk : k < js.length
            · obtain ⟨a, ha⟩ := get_at js k hlk
              obtain ⟨q, rfl, hq⟩ := hmk.2.2.2.2.2.2.2.1 a (List.mem_of_getElem? ha)
              have hst := hmk.1
              have hc : wr.cell? ⟨g, k, none⟩ = some (.int .i64 q) := by rw [hown.cellAt k (by omega), List.getElem?_map, ha]; rfl
              have hmk' := hmk.step ha
              clear ha hmk
              go_wp2_with (refine wpList_st1 _ rfl 3 _ _ rfl w.heap.size q (st.map iI) (.int .i64 2) rfl hb rfl Try.info3 (by simp; omega) rfl ?_; intro w2 hb2 hg2; rw [map_set_iI] at hb2; have he2 := grown_ext he hg2 (by simp); have hown2 := hown.kept hg2 (Or.inr (by show some g ≠ some w.heap.size; intro e; cases e; omega)))
              go_roundw
              case rel => exact ⟨k + 1, _, by go_num, by omega, hown2, hb2, hmk', he2⟩
              case measure => simp [intOf]; omega
            · obtain rfl : k = js.length := by omega
              have hout := hmk.done
              clear hmk
              go_wp2
              go_roundw
              case rel => exact ⟨i + 1, g, cap, _, _, st, by go_num, by omega, rfl, hown, hb, hout, he⟩
              case measure => simp [intOf]; omega
        · obtain ⟨s, hs⟩ := get_at st q (by omega)
          obtain ⟨z, hz⟩ := get_at P q hq
          have cS := cell_iI hb hs
          have cP := cell_iI hP hz
          rcases hin.2.1 q s hs with rfl | rfl | rfl
          · have hin' := hin.step hR hs hz
            have hcnt := cnt_set hs
            have hjl := hin.2.2.2.2.2.2.2.2.1
            clear hin hs hz
            go_wp2_with (first
              | (refine wpList_st1 _ rfl 3 _ _ rfl w.heap.size q (st.map iI) (.int .i64 1) rfl hb rfl Try.info3 (by simp; omega) rfl ?_; intro w2 hb2 hg2; rw [map_set_iI] at hb2; have he2 := grown_ext he hg2 (by simp); have hown2 := hown.kept hg2 (Or.inr (by show some g ≠ some w.heap.size; intro e; cases e; omega)))
              | (at_builtin; refine wpList_push w2 rfl (.tmp 35) (.tmp 37) rfl w0.heap.size (.slice (some ⟨g, 0, none⟩) js.length cap) js.length (js.map iI) (.int .i64 q) rfl hown2 rfl rfl (by omega) (by have := hg2.size; omega) ?_; intro g3 cap3 w3 hown3 hg3; have he3 := grown_ext he2 hg3 (by intro k hk; have : g = k := Option.some.inj hk; omega); have hb3 := hb2.kept hg3 (by show some w.heap.size ≠ some g; intro e; cases e; omega); have cP3 := he3.cell cP))
            go_roundg (cnt (st.set q 1))
            case measure => rw [hgk.out]; omega
            case rel => exact ⟨g3, cap3, js ++ [(q : Int)], z, _, by simp, rfl, by simpa [iI] using hown3, hb3, hin', rfl, he3⟩
          · clear hin hs hz hgk
            go_wp2_with fail
            go_ret
            exact ⟨true, by simp, rfl, he⟩
          · have hmk := hin.mark hlt (Or.inr ⟨q, rfl, hs⟩)
            clear hin hgk hs hz cP
            go_wp2_with fail
            go_loopw [8] (fun kv wr => ∃ (k : Nat) (st : List Int), kv = .int .i64 k ∧ k ≤ js.length ∧ wr.ownsRow w0.heap.size 3 1 (.slice (some ⟨g, 0, none⟩) js.length cap) js.length (js.map iI) ∧ Blk wr w.heap.size (st.map iI) ∧ MkI P st i js k ∧ Ext w wr) (fun k _ => js.length - (intOf k).toNat)
            case atStart => exact ⟨0, st, rfl, Nat.zero_le _, hown, hb, hmk, he⟩
            case round =>
              clear hown hb hmk he
              obtain ⟨k, st, rfl, hk, hown, hb, hmk, he⟩ := hrel
              have hge := own_ge hown
              by_cases hlk : k < js.length
              · obtain ⟨a, ha⟩ := get_at js k hlk
                obtain ⟨q, rfl, hq⟩ := hmk.2.2.2.2.2.2.2.1 a (List.mem_of_getElem? ha)
                have hst := hmk.1
                have hc : wr.cell? ⟨g, k, none⟩ = some (.int .i64 q) := by rw [hown.cellAt k (by omega), List.getElem?_map, ha]; rfl
                have hmk' := hmk.step ha
                clear ha hmk
                go_wp2_with (refine wpList_st1 _ rfl 3 _ _ rfl w.heap.size q (st.map iI) (.int .i64 2) rfl hb rfl Try.info3 (by simp; omega) rfl ?_; intro w2 hb2 hg2; rw [map_set_iI] at hb2; have he2 := grown_ext he hg2 (by simp); have hown2 := hown.kept hg2 (Or.inr (by show some g ≠ some w.heap.size; intro e; cases e; omega)))
                go_roundw
                case rel => exact ⟨k + 1, _, by go_num, by omega, hown2, hb2, hmk', he2⟩
                case measure => simp [intOf]; omega
              · obtain rfl : k = js.length := by omega
                have hout := hmk.done
                clear hmk
                go_wp2
                go_roundw
                case rel => exact ⟨i + 1, g, cap, _, _, st, by go_num, by omega, rfl, hown, hb, hout, he⟩
                case measure => simp [intOf]; omega
    · obtain rfl : i = P.length := by omega
      go_wp2
      go_ret
      exact ⟨false, fun _ q hq => hout.2.2.1 q (hout.2.2.2 q hq), rfl, he⟩
end Go.Proofs.Qxb6609292a
