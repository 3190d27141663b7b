/-
  WALKS for seat b6609292a: indexShares.
-/
import Derived.Test.Qxb6609292aSort
set_option linter.unusedVariables false
set_option linter.unusedSimpArgs false
namespace Go.Proofs.Qxb6609292a
open Go.RowKit Go.Maps

/-- The place of an id, 0 if there is none. -/
def posD (ids : List ByteArray) (s : ByteArray) : Nat := (idxTo ids ids.length s).getD 0
def toKeys (ids : List ByteArray) (l : List Share) : List Int := l.map fun s => (posD ids s.dest : Int)
theorem SM.posD {w : World} {b n : Nat} {ids : List ByteArray} (h : SM w 3 b n (posF ids ids.length)) {s : ByteArray} (hs : okStr s) : (Instr.lookup 58 (.map (some b)) (.string s) false).run Try.prog w = .ok (.int .i64 (Qxb6609292a.posD ids s)) w := by
  unfold Qxb6609292a.posD
  cases hp : idxTo ids ids.length s with
  | none => exact h.nopos1 hs hp
  | some p => exact h.pos1 hs hp
theorem posD_lt {ids : List ByteArray} {s : ByteArray} (h : s ∈ ids) : posD ids s < ids.length := by
  unfold posD
  cases hp : idxTo ids ids.length s with
  | none => exact absurd h (idx_none_iff.1 hp)
  | some p => exact (idx_some _ _ _ hp).2
theorem keys_ok {ids : List ByteArray} {l : List Share} (h : ∀ s ∈ l, s.dest ∈ ids) : KeysOk (toKeys ids l) ids.length := by
  intro i z hz
  unfold toKeys at hz
  rw [List.getElem?_map] at hz
  cases hs : l[i]? with
  | none => rw [hs] at hz; cases hz
  | some s =>
    rw [hs] at hz
    right
    exact ⟨posD ids s.dest, (Option.some.inj hz).symm, posD_lt (h s (List.mem_of_getElem? hs))⟩

set_option maxRecDepth 100000 in
set_option maxHeartbeats 1600000 in
theorem indexShares_any (T b N : Nat) (ids : List ByteArray) (ia : Option Addr) (ic : Nat) (v : Value) (l : List Share) (w : World) (h0 : w.cell? ⟨T, 0, none⟩ = some (.slice ia ids.length ic)) (h1 : w.cell? ⟨T, 1, none⟩ = some (.map (some b))) (hm : SM w 3 b N (posF ids ids.length))
    (h : SharesAt w v l) (hd : ∀ s ∈ l, s.dest ∈ ids) (hn : l.length ≤ 1048576) (hni : ids.length ≤ 1048576) :
    Calls Try.prog 43 #[.pointer (some ⟨T, 0, none⟩), v] w (GroupsPost (toKeys ids l) ids.length w) := by
  obtain ⟨ao, cap, rfl, hcap⟩ := h.shape
  have hR0 : Blk (w.alloc (.cells #[.slice none 0 0, .slice none 0 0] 115)) w.heap.size [.slice none 0 0, .slice none 0 0] := Blk.alloc w [.slice none 0 0, .slice none 0 0] 115
  go_enter Try.func43, Try.ntmps43
  go_wp2_with (at_make; refine wpList_mk _ rfl _ _ 66 rfl 3 (.int .i64 0) 1 8 Try.underlying66 Try.infos3 l.length rfl rfl (by omega) (by omega) ?_; intro w0 hb0 hg0; rw [made_one _ rfl] at hb0)
  have hsz : (w.alloc (.cells #[.slice none 0 0, .slice none 0 0] 115)).heap.size = w.heap.size + 1 := by simp
  have hz0 := hR0.kept hg0 (by simp)
  have he0 : Ext w w0 := grown_ext (Ext.alloc w _) hg0 (by simp)
  rw [hsz] at hb0
  clear hsz hR0 hg0
  go_loopw [13] (fun j wr => ∃ (k : Nat) (xs : List Value), j = .int .i64 k ∧ k ≤ l.length ∧ xs.length = l.length ∧ Hid (xs.take k = ((toKeys ids l).take k).map iI) ∧ Blk wr (w.heap.size + 1) xs ∧ Blk wr w.heap.size [.slice none 0 0, .slice none 0 0] ∧ Ext w wr) (fun i _ => l.length - (intOf i).toNat)
  case atStart => exact ⟨0, _, rfl, Nat.zero_le _, by simp, by simp [Hid], hb0, hz0, he0⟩
  case round =>
    clear hb0 hz0 he0
    obtain ⟨k, xs, rfl, hk, hxl, hx, hb, hz, he⟩ := hrel
    by_cases hlt : k < l.length
    · obtain ⟨o, ho⟩ := get_at l k hlt
      obtain ⟨bb, off, rfl, c0, c1, c2, c3, c4, ok⟩ := h.at ho
      obtain ⟨sa, sc, hsv, hsc⟩ := ok.2.2.2.2.shape
      rw [hsv] at c3
      have d0 := he.cell c0
      have d1 := he.cell c1
      have d2 := he.cell c2
      have d3 := he.cell c3
      have d4 := he.cell c4
      have hx1 := Ext.alloc wr (.cells #[.string o.id, .string o.owner, .string o.dest, .slice sa o.perms.length sc, .string o.by_] 103)
      have e1 := (he.trans hx1).cell h1
      have hlk := ((hm.ext (he.trans hx1)).ext (Ext.refl _).drawn).posD ok.2.2.1
      have hb1 := hb.ext hx1
      have fb := hb1.frozen
      obtain ⟨y, hy⟩ := get_at xs k (by omega)
      have cy := hb1.cell hy
      have hbs := blk_set1 hb1 (i := k) (by omega) (.int .i64 (posD ids o.dest))
      have hgd := grown_drew hbs.2
      have HX : Hid ((xs.set k (iI (posD ids o.dest))).take (k + 1) = ((toKeys ids l).take (k + 1)).map iI) := by
        show _ = _
        rw [take_set_succ _ _ _ (by omega), map_take_succ iI (o := (posD ids o.dest : Int)) (by unfold toKeys; rw [List.getElem?_map, ho]; rfl), hx.out]
      clear ho c0 c1 c2 c3 c4 hx hy hsv hsc
      go_upto_region 5 with fail
      go_big_region
      go_wp2
      go_roundw
      case rel => exact ⟨k + 1, _, by go_num, by omega, by simp [hxl], HX, hbs.1.drew, (hz.ext hx1).kept hgd (sne (by omega)), ext_st (he.trans hx1) hgd (by omega)⟩
      case measure => simp [intOf]; omega
    · obtain rfl : k = l.length := by omega
      have hkl : (toKeys ids l).length = l.length := by simp [toKeys]
      have hxs : xs = (toKeys ids l).map iI := by
        have h3 := hx.out
        rw [← hxl, List.take_length, hxl, ← hkl, List.take_length] at h3
        exact h3
      rw [hxs] at hb
      have e0 := he.cell h0
      have HKL : Hid ((toKeys ids l).length = l.length) := hkl
      clear hx hxl hxs hkl hk hlt
      have hcall : Calls Try.prog 53 #[.int .i64 ids.length, .slice (some ⟨w.heap.size + 1, 0, none⟩) l.length l.length] wr (GroupsPost (toKeys ids l) ids.length wr) := by
        have := groupBy_any (toKeys ids l) ids.length (w.heap.size + 1) wr hb (keys_ok hd) hni (by rw [HKL.out]; exact hn)
        rw [HKL.out] at this; exact this
      go_wp2_with (first
        | (go_at_call 53; refine hcall.mono ?_; rintro e w1 ⟨gS, gM, S, M, hgr, hS, hM, hgS, hgM, rfl, hx1⟩; have hz1 := hz.ext hx1; have he1 := he.trans hx1)
        | (refine wpList_st _ rfl 115 (.tmp 4) (.tmp 35) rfl w.heap.size 0 _ (.agg #[.slice (some ⟨gS, 0, none⟩) (ids.length + 1) (ids.length + 1), .slice (some ⟨gM, 0, none⟩) (Qxb6609292a.off (toKeys ids l) ids.length) (Qxb6609292a.off (toKeys ids l) ids.length)]) [.slice (some ⟨gS, 0, none⟩) (ids.length + 1) (ids.length + 1), .slice (some ⟨gM, 0, none⟩) (Qxb6609292a.off (toKeys ids l) ids.length) (Qxb6609292a.off (toKeys ids l) ids.length)] rfl hz1 rfl rfl Try.info115 (by simp) (by simp [Value.oneCell']) ?_; intro w2 hR2 hg2))
      have hR2' : Blk w2 w.heap.size [.slice (some ⟨gS, 0, none⟩) (ids.length + 1) (ids.length + 1), .slice (some ⟨gM, 0, none⟩) (Qxb6609292a.off (toKeys ids l) ids.length) (Qxb6609292a.off (toKeys ids l) ids.length)] := hR2
      have j0 := hR2'.cell (i := 0) rfl
      have j1 := hR2'.cell (i := 1) rfl
      have hzl := hz.lt
      refine bodyPost_ret (v := .agg #[.slice (some ⟨gS, 0, none⟩) (ids.length + 1) (ids.length + 1), .slice (some ⟨gM, 0, none⟩) (Qxb6609292a.off (toKeys ids l) ids.length) (Qxb6609292a.off (toKeys ids l) ids.length)]) (by simp [results, Try.results43, go_sem, j0, j1]) rfl ⟨gS, gM, S, M, hgr, hS.kept hg2 (sne (by omega)), hM.kept hg2 (sne (by omega)), by omega, by omega, rfl, ext_st he1 hg2 (Nat.le_refl _)⟩
end Go.Proofs.Qxb6609292a
