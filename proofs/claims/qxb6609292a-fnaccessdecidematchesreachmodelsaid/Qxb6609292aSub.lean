/-
  WALKS for seat b6609292a: groups.of, Tree.subtree, Tree.ancestors.
-/
import Derived.Test.Qxb6609292aSubP
import Derived.Deep.RegionHeld3
import Derived.ArgAppend
set_option linter.unusedVariables false
set_option linter.unusedSimpArgs false
namespace Go.Proofs.Qxb6609292a
open Go.RowKit Go.Maps

def nI (n : Nat) : Value := .int .i64 n
set_option maxRecDepth 100000 in
set_option maxHeartbeats 1600000 in
theorem of_any (keys : List Int) (n k gS gM : Nat) (S M : List Int) (w : World) (h : Grouped keys n S M) (hS : Blk w gS (S.map iI)) (hM : Blk w gM (M.map iI)) (hk : k < n) (hn : n ≤ 1048576) (hl : keys.length ≤ 1048576) :
    Calls Try.prog 72 #[.agg #[.slice (some ⟨gS, 0, none⟩) (n + 1) (n + 1), .slice (some ⟨gM, 0, none⟩) (off keys n) (off keys n)], .int .i64 k] w fun e w' =>
      ∃ o c, e = .returned (.slice (some ⟨gM, o, none⟩) (kids keys k).length c) ∧ (∀ j i, (kids keys k)[j]? = some i → w.cell? ⟨gM, o + j, none⟩ = some (nI i)) ∧ Ext w w' := by
  have hcell : Hid (∀ j i, (kids keys k)[j]? = some i → w.cell? ⟨gM, off keys k + j, none⟩ = some (nI i)) := fun j i hj => kids_cell h hM hk hj
  have hx := Ext.alloc w (.cells #[.slice (some ⟨gS, 0, none⟩) (n + 1) (n + 1), .slice (some ⟨gM, 0, none⟩) (off keys n) (off keys n)] 115)
  have hB := Blk.alloc w [.slice (some ⟨gS, 0, none⟩) (n + 1) (n + 1), .slice (some ⟨gM, 0, none⟩) (off keys n) (off keys n)] 115
  have c0 := hB.cell (i := 0) rfl
  have c1 := hB.cell (i := 1) rfl
  have s0 := hx.cell (cell_iI hS (h.2.1 k (by omega)))
  have s1 := hx.cell (cell_iI hS (h.2.1 (k + 1) (by omega)))
  have l0 := off_mono keys (show k + 1 ≤ n by omega)
  have l1 := off_succ keys k
  have l2 := off_le keys n
  have hc := kids_len keys k
  obtain ⟨A, hA⟩ : ∃ A, off keys k = A := ⟨_, rfl⟩
  obtain ⟨B, hB'⟩ : ∃ B, off keys (k + 1) = B := ⟨_, rfl⟩
  obtain ⟨L, hL⟩ : ∃ L, off keys n = L := ⟨_, rfl⟩
  obtain ⟨C, hC⟩ : ∃ C, (kids keys k).length = C := ⟨_, rfl⟩
  rw [hA] at s0 l1
  rw [hB'] at s1 l0 l1
  rw [hL] at l0 l2 c0 c1 hx s0 s1
  rw [← hc, hC] at l1
  simp only [hL] at hB ⊢
  simp only [hA] at hcell
  have e1 : Hid (B = A + C) := l1
  have hAB : A ≤ B := by omega
  have hC0 : Hid ((kids keys k).length = C) := hC
  rw [hC]
  clear hA hB' hL hC hS hM h hc l1
  go_enter Try.func72, Try.ntmps72
  go_upto_region 1 with fail
  go_big_region
  go_wp2
  all_goals go_ret
  · rw [h] at hx
    have hCB : C = B - A := by have := e1.out; omega
    rw [hCB]
    exact ⟨0, ⟨0, rfl⟩, fun j i hj => absurd ((List.getElem?_eq_some_iff.1 hj).1) (by have := e1.out; rw [hC0.out]; omega), hx.drawn⟩
  · have hCB : C = B - A := by have := e1.out; omega
    rw [hCB]
    exact ⟨A, ⟨L - A, rfl⟩, hcell.out, hx.drawn⟩

/-- append onto a slice of numbers that the function owns; what the old slice showed is as it was. -/
theorem run_app (w : World) (ty : TypeId) (base g n cap : Nat) (xs : List Value) (hown : w.ownsRow base 3 1 (.slice (some ⟨g, 0, none⟩) n cap) n xs) (ad : Addr) (m c : Nat) (news : List Value) (hl : news.length = m) (hnews : ∀ j u, news[j]? = some u → w.cell? (ad.add j) = some u) (h1 : ∀ u ∈ news, u.oneCell' = true) (hn0 : 0 < n) (hb : n + m ≤ 1048577) (hbase : base ≤ w.heap.size) :
    ∃ g' cap' w', (Builtin.append_ #[66, 66] ty #[.slice (some ⟨g, 0, none⟩) n cap, .slice (some ad) m c]).run Try.prog w = .ok (.slice (some ⟨g', 0, none⟩) (n + m) cap') w' ∧ w'.ownsRow base 3 1 (.slice (some ⟨g', 0, none⟩) (n + m) cap') (n + m) (xs ++ news) ∧ w.grownBy w' (some g) ∧ ∀ j, j < n → w'.cell? ⟨g, j, none⟩ = w.cell? ⟨g, j, none⟩ := by
  obtain ⟨i0, hi, hz0, hz1, hz2⟩ := info_parts Try.infos3
  obtain ⟨v', w', hr, hown', hg', _⟩ := run_append_own (P := Try.prog) w base 66 ty 3 i0 (.int .i64 0) 1 8 Try.underlying66 hi hz0 hz1 hz2 rfl (by decide) _ n xs hown ad m c news (by omega) hnews h1 (by unfold maxLen; omega) (by omega) hbase
  have hge := own_ge hown
  rcases hown'.2 with ⟨_, h0⟩ | ⟨g', cap', cur, hv, _⟩
  · omega
  · subst hv
    refine ⟨g', cap', w', hr, hown', hg', fun j hj => ?_⟩
    rcases hown.2 with ⟨h', _⟩ | ⟨g2, cap2, cur2, h', hb2, hg2, hnc, hcm, hcs, htake⟩
    · simp at h'
    simp only [Value.slice.injEq, Option.some.injEq, Addr.mk.injEq, and_true, true_and] at h'
    obtain ⟨rfl, rfl⟩ := h'
    by_cases hroom : n + m ≤ cap
    · have hr2 := run_append_room_cells (P := Try.prog) w 66 ty 3 i0 Try.underlying66 hi g 0 n cap ad m c news (by rw [hz1]; omega) hnews h1 hroom
        (by intro q hq; rw [hz1]; simp [World.cell?, hg2]; omega) (by intro q hq; simp [World.frozen?, hg2])
      rw [hr2] at hr
      have ew : w.setCells g (0 + n * i0.size) news = w' := by injection hr
      rw [← ew]
      exact World.cell?_setCells_out g news _ w ⟨g, j, none⟩ (fun _ _ => Or.inl (by rw [hz1]; show j < 0 + n * 1; omega))
    · obtain ⟨v3, w3, hr3, _, hg3⟩ := run_append_arg_grows (P := Try.prog) w 66 ty 3 i0 (.int .i64 0) 1 8 Try.underlying66 hi hz0 hz1 hz2 rfl (by decide) ⟨g, 0, none⟩ n cap xs hown.1 (by intro q u hq; have hq' := (List.getElem?_eq_some_iff.1 hq).1; rw [hown.1] at hq'; have := hown.cellAt q (by omega); rw [Addr.add_lit, Nat.zero_add, this, hq]) ad m c news (by omega) hnews (by omega) (by unfold maxLen; omega) (by omega)
      rw [hr3] at hr
      have ew : w3 = w' := by injection hr
      rw [← ew]
      have := hg3.block g hge.2 (by simp)
      simp [World.cell?, this]
theorem step_app {ops : Array Oper} {o : Oper} {a : Act} {w : World} {K : Act → World → Prop} {Q : Exit → Act → World → Prop} {E : Prop} (hgd : o.guard = none) (s x : Operand)
    (ho : o.op = .call { callee := .builtin .append, args := #[s, x], argTypes := #[66, 66] }) (base g n cap : Nat) (xs : List Value) (hs : a.eval s = .slice (some ⟨g, 0, none⟩) n cap) (hown : w.ownsRow base 3 1 (.slice (some ⟨g, 0, none⟩) n cap) n xs)
    (ad : Addr) (m c : Nat) (news : List Value) (hx : a.eval x = .slice (some ad) m c) (hl : news.length = m) (hnews : ∀ j u, news[j]? = some u → w.cell? (ad.add j) = some u) (h1 : ∀ u ∈ news, u.oneCell' = true) (hn0 : 0 < n) (hb : n + m ≤ 1048577) (hbase : base ≤ w.heap.size)
    (hK : ∀ g' cap' w', w'.ownsRow base 3 1 (.slice (some ⟨g', 0, none⟩) (n + m) cap') (n + m) (xs ++ news) → w.grownBy w' (some g) → (∀ j, j < n → w'.cell? ⟨g, j, none⟩ = w.cell? ⟨g, j, none⟩) → K (a.put o.dst (.slice (some ⟨g', 0, none⟩) (n + m) cap')) w') :
    if Region.wanted o (yielded ops a.tmps) = true then Oper.wp Try.prog o a w K Q else E := by
  have hw : Region.wanted o (yielded ops a.tmps) = true := by simp [Region.wanted, hgd]
  rw [if_pos hw]
  obtain ⟨g', cap', w', hr, h2, h3, h4⟩ := run_app w o.type base g n cap xs hown ad m c news hl hnews h1 hn0 hb hbase
  unfold Oper.wp execOp
  simp only [ho, resolve, invoke, builtin, Sem.run_bind, Sem.run_pure, Result.andThen_ok, List.map_toArray, List.map_cons, List.map_nil, hs, hx, hr]
  exact hK _ _ _ h2 h3 h4
theorem own_ext {w w' : World} {base e g n cap : Nat} {xs : List Value} (h : w.ownsRow base e 1 (.slice (some ⟨g, 0, none⟩) n cap) n xs) (he : Ext w w') : w'.ownsRow base e 1 (.slice (some ⟨g, 0, none⟩) n cap) n xs := by
  refine ⟨h.1, ?_⟩
  rcases h.2 with hn | ⟨g2, cap2, cur2, h', hb2, hg2, hr⟩
  · exact .inl hn
  · exact .inr ⟨g2, cap2, cur2, h', hb2, he.block hg2, hr⟩

set_option maxRecDepth 100000 in
set_option maxHeartbeats 3200000 in
theorem subtree_any (P : List Int) (rank : Nat → Nat) (T gS gM top : Nat) (S M : List Int) (w : World) (hR : Rng P) (hrk : Ranked P rank) (hP : P.length ≤ 1048576) (h : Grouped P P.length S M) (hS : Blk w gS (S.map iI)) (hM : Blk w gM (M.map iI))
    (c3 : w.cell? ⟨T, 3, none⟩ = some (.slice (some ⟨gS, 0, none⟩) (P.length + 1) (P.length + 1))) (c4 : w.cell? ⟨T, 4, none⟩ = some (.slice (some ⟨gM, 0, none⟩) (off P P.length) (off P P.length))) (ht : top < P.length) :
    Calls Try.prog 86 #[.pointer (some ⟨T, 0, none⟩), .int .i64 top] w fun e w' => ∃ Q g cap, Sub P top Q ∧ w'.ownsRow w.heap.size 3 1 (.slice (some ⟨g, 0, none⟩) Q.length cap) Q.length (Q.map nI) ∧ e = .returned (.slice (some ⟨g, 0, none⟩) Q.length cap) ∧ Ext w w' := by
  have hown0 : (w.alloc (.cells #[.int .i64 top] 3)).ownsRow w.heap.size 3 1 (.slice (some ⟨w.heap.size, 0, none⟩) 1 1) 1 [nI top] :=
    ⟨rfl, .inr ⟨w.heap.size, 1, _, rfl, Nat.le_refl _, by show (w.heap.push _)[w.heap.size]? = _; simp; rfl, Nat.le_refl _, by unfold maxLen; omega, rfl, rfl⟩⟩
  have he0 := Ext.alloc w (.cells #[.int .i64 top] 3)
  go_enter Try.func86, Try.ntmps86
  go_wp2_with fail
  go_loopw [5, 6] (fun qv iv wr => ∃ (k : Nat) (Q : List Nat) (g cap : Nat), iv = .int .i64 k ∧ qv = .slice (some ⟨g, 0, none⟩) Q.length cap ∧ Hid (Bfs P top k Q) ∧ wr.ownsRow w.heap.size 3 1 (.slice (some ⟨g, 0, none⟩) Q.length cap) Q.length (Q.map nI) ∧ Ext w wr) (fun _ i _ => P.length - (intOf i).toNat)
  case atStart => exact ⟨0, [top], w.heap.size, 1, rfl, rfl, Bfs.start P ht, hown0, he0⟩
  case round =>
    clear hown0 he0
    obtain ⟨k, Q, g, cap, rfl, rfl, hB, hown, he⟩ := hrel
    have hge := own_ge hown
    have hlen := hB.out.len
    have hkl := hB.out.k
    by_cases hlt : k < Q.length
    · obtain ⟨q, hq⟩ := get_at Q k hlt
      have hql := hB.out.lt q (List.mem_of_getElem? hq)
      have hB' : Hid (Bfs P top (k + 1) (Q ++ kids P q)) := hB.out.step hR hrk hq
      have hlen' := hB'.out.len
      rw [List.length_append] at hlen'
      have cq : wr.cell? ⟨g, k, none⟩ = some (.int .i64 q) := by rw [hown.cellAt k (by omega), List.getElem?_map, hq]; rfl
      have d3 := he.cell c3
      have d4 := he.cell c4
      have hTg : T ≠ g := by have := cell_lt c3; omega
      clear hq
      go_upto_region 5 with fail
      go_region_held3 (fun w' => w'.cell? ⟨T, 3, none⟩ = some (.slice (some ⟨gS, 0, none⟩) (P.length + 1) (P.length + 1)) ∧ w'.cell? ⟨T, 4, none⟩ = some (.slice (some ⟨gM, 0, none⟩) (off P P.length) (off P P.length)) ∧ w'.cell? ⟨g, k, none⟩ = some (.int .i64 q))
        (first | (exact ⟨hxc.cell d3, hxc.cell d4, hxc.cell cq⟩) | (exact ⟨hga.cell (hxc.cell d3) (sne hTg), hga.cell (hxc.cell d4) (sne hTg), (hkp k hlt).trans (hxc.cell cq)⟩) | go_keep)
        ((first
          | (go_at_call 72; refine (of_any P P.length q gS gM S M wr.drew h ((hS.ext he).drew) ((hM.ext he).drew) hql hP hP).mono ?_; rintro e wc ⟨o, c, rfl, hcells, hxc'⟩; have hxc := (Ext.refl wr).drawn.trans hxc')
          | (refine step_app (by rfl) (.tmp 15) (.tmp 24) (by rfl) w.heap.size g Q.length cap (Q.map nI) (by rfl) (own_ext hown hxc) ⟨gM, o, none⟩ (kids P q).length c ((kids P q).map nI) (by rfl) (by simp) (by intro j u hj; rw [List.getElem?_map] at hj; cases hz : (kids P q)[j]? with | none => (rw [hz] at hj; cases hj) | some i => (rw [hz] at hj; cases hj; rw [Addr.add_lit]; exact hxc'.cell (hcells j i hz))) (by simp [nI, Value.oneCell']) (by omega) (by omega) (by have := he.size; have := hxc.size; omega) ?_; intro g2 cap2 wa hown2 hga hkp)
          | fail))
      go_wp2
      go_roundw
      case rel => exact ⟨k + 1, Q ++ kids P q, g2, cap2, by go_num, by simp, hB', by simpa using hown2, ext_st (he.trans hxc) hga hge.1⟩
      case measure => simp [intOf]; omega
    · obtain rfl : k = Q.length := by omega
      go_wp2
      go_ret
      exact ⟨Q, g, cap, hB.out.done, hown, rfl, he⟩

/-- A is the chain of parents from z on. -/
def upL (P : List Int) : Int → List Nat → Prop
  | z, [] => z < 0
  | z, a :: r => z = (a : Int) ∧ upL P (par P a) r
theorem upL_mem {P : List Int} : ∀ (A : List Nat) (z : Int), upL P z A → ∀ a : Nat, a ∈ A ↔ ((a : Int) = z ∨ Above P a z)
  | [], z, h, a => by
    constructor
    · intro h'; cases h'
    · rintro (h' | h')
      · have : z < 0 := h
        omega
      · exact absurd h' (above_neg h (by omega))
  | b :: r, z, h, a => by
    obtain ⟨rfl, h2⟩ := h
    have ih := upL_mem r _ h2 a
    rw [List.mem_cons, ih, ← above_iff]
    constructor
    · rintro (h' | h')
      · exact Or.inl (by rw [h'])
      · exact Or.inr h'
    · rintro (h' | h')
      · exact Or.inl (Int.ofNat.inj h')
      · exact Or.inr h'
structure UpI (P : List Int) (rank : Nat → Nat) (p : Nat) (A : List Nat) (z : Int) : Prop where
  pre : ∀ rest, upL P z rest → upL P (par P p) (A ++ rest)
  nd : A.Nodup
  lt : ∀ a ∈ A, a < P.length
  dec : ∀ a ∈ A, ∀ q : Nat, z = q → rank q < rank a
  rng : z = -1 ∨ ∃ q : Nat, z = q ∧ q < P.length
theorem UpI.len {P : List Int} {rank : Nat → Nat} {p : Nat} {A : List Nat} {z : Int} (h : UpI P rank p A z) : A.length ≤ P.length := nodup_bound _ _ h.nd h.lt
theorem UpI.start {P : List Int} (rank : Nat → Nat) {p : Nat} {z : Int} (hR : Rng P) (h : P[p]? = some z) : UpI P rank p [] z :=
  ⟨fun rest hr => by rw [par_at h]; exact hr, by simp, by simp, by simp, hR p z h⟩
theorem UpI.step {P : List Int} {rank : Nat → Nat} {p q : Nat} {A : List Nat} {z : Int} (h : UpI P rank p A (q : Int)) (hR : Rng P) (hrk : Ranked P rank) (hz : P[q]? = some z) : UpI P rank p (A ++ [q]) z := by
  refine ⟨fun rest hr => ?_, ?_, ?_, ?_, hR q z hz⟩
  · rw [List.append_assoc]
    exact h.pre _ ⟨rfl, by rw [par_at hz]; exact hr⟩
  · rw [List.nodup_append]
    refine ⟨h.nd, by simp, fun a ha b hb e => ?_⟩
    simp at hb
    subst hb e
    have := h.dec a ha a rfl
    omega
  · intro a ha
    rcases List.mem_append.1 ha with e | e
    · exact h.lt a e
    · simp at e; rw [e]; exact (List.getElem?_eq_some_iff.1 hz).1
  · intro a ha q' hq'
    have h1 := hrk q q' (by rw [hz, hq'])
    rcases List.mem_append.1 ha with e | e
    · have := h.dec a e q rfl; omega
    · simp at e; rw [e]; exact h1
set_option maxRecDepth 100000 in
set_option maxHeartbeats 3200000 in
theorem ancestors_any (P : List Int) (rank : Nat → Nat) (T gp p : Nat) (w : World) (hR : Rng P) (hrk : Ranked P rank) (hP : P.length ≤ 1048576) (hp : Blk w gp (P.map iI)) (c2 : w.cell? ⟨T, 2, none⟩ = some (.slice (some ⟨gp, 0, none⟩) P.length P.length)) (ht : p < P.length) :
    Calls Try.prog 74 #[.pointer (some ⟨T, 0, none⟩), .int .i64 p] w fun e w' => ∃ A v, Hid (upL P (par P p) A) ∧ w'.ownsRow w.heap.size 3 1 v A.length (A.map nI) ∧ (∀ a ∈ A, a < P.length) ∧ A.length ≤ P.length ∧ e = .returned v ∧ Ext w w' := by
  obtain ⟨z, hz⟩ := get_at P p ht
  have c0 := cell_iI hp hz
  have hU0 : Hid (UpI P rank p [] z) := UpI.start rank hR hz
  clear hz
  go_enter Try.func74, Try.ntmps74
  go_wp2_with fail
  go_loopw [1, 5] (fun pv sv wr => ∃ (A : List Nat) (z : Int), pv = .int .i64 z ∧ Hid (UpI P rank p A z) ∧ wr.ownsRow w.heap.size 3 1 sv A.length (A.map nI) ∧ Ext w wr) (fun p _ _ => lvl rank (intOf p))
  case atStart => exact ⟨[], z, rfl, hU0, World.ownsRow_nil w _ 3 1, Ext.refl w⟩
  case round =>
    clear c0 hU0
    rename_i sv
    obtain ⟨A, z, rfl, hU, hown, he⟩ := hrel
    rcases hU.out.rng with rfl | ⟨q, rfl, hq⟩
    · go_wp2
      go_ret
      refine ⟨A, _, ?_, hown, hU.out.lt, hU.out.len, rfl, he⟩
      have := hU.out.pre [] (by show (-1 : Int) < 0; decide)
      rw [List.append_nil] at this
      exact this
    · obtain ⟨z, hz⟩ := get_at P q hq
      have hrk' : ∀ q' : Nat, z = q' → rank q' < rank q := fun q' hq' => hrk q q' (by rw [hz, hq'])
      have hz' := hR q z hz
      have hU' : Hid (UpI P rank p (A ++ [q]) z) := hU.out.step hR hrk hz
      have hl' := hU'.out.len
      rw [List.length_append] at hl'
      have hPx := fun (wn : World) (hx : Ext w wn) => cell_iI (hp.ext hx) hz
      have hsz := he.size
      clear hz
      go_wp2_with (at_builtin; refine wpList_push _ rfl (.tmp 22) (.tmp 24) rfl w.heap.size _ A.length (A.map nI) (.int .i64 q) rfl hown rfl rfl (by simp at hl'; omega) hsz ?_; intro g3 cap3 w3 hown3 hg3; have he3 := grown_ext he hg3 (by intro k hk; exact (hown.lt k hk).1); have cT3 := he3.cell c2; have cP3 := hPx w3 he3)
      go_roundw
      case rel => exact ⟨A ++ [q], z, rfl, hU', by simpa [nI] using hown3, he3⟩
      case measure =>
        rcases hz' with rfl | ⟨q', rfl, hq'⟩
        · rw [intOf_i, intOf_i, lvl_neg, lvl_nat]; omega
        · have := hrk' q' rfl
          rw [intOf_i, intOf_i, lvl_nat, lvl_nat]; omega
end Go.Proofs.Qxb6609292a
