/-
  WALKS for seat b6609292a: firstIDProblem, parentsOf, grantsDistinct.
-/
import Derived.Test.Qxb6609292aWalkA
set_option linter.unusedVariables false
namespace Go.Proofs.Qxb6609292a
open Go.RowKit Go.Maps

def setF (l : List ByteArray) : ByteArray → Option Value := fun s => if (l.any fun t => decide (t = s)) = true then some (.bool true) else none
theorem setF_mem {l : List ByteArray} {s : ByteArray} (h : s ∈ l) : setF l s = some (.bool true) := by unfold setF; rw [if_pos (by simp [h])]
theorem setF_not {l : List ByteArray} {s : ByteArray} (h : s ∉ l) : setF l s = none := by unfold setF; rw [if_neg (by simpa using h)]
theorem setF_succ {l : List ByteArray} {k : Nat} {o : ByteArray} (h : l[k]? = some o) : upd (setF (l.take k)) o (.bool true) = setF (l.take (k + 1)) := by
  funext t
  unfold upd
  by_cases e : t = o
  · rw [if_pos e, setF_mem ((mem_take_succ h).2 (Or.inr e))]
  · rw [if_neg e]
    by_cases h2 : t ∈ l.take k
    · rw [setF_mem h2, setF_mem ((mem_take_succ h).2 (Or.inl h2))]
    · rw [setF_not h2, setF_not]
      intro h3
      rcases (mem_take_succ h).1 h3 with h4 | h4
      · exact h2 h4
      · exact e h4
theorem setF_nil : setF [] = fun _ => none := by funext t; exact setF_not (by simp)
theorem SM.has {w : World} {b n : Nat} {l : List ByteArray} (h : SM w 4 b n (setF l)) {s : ByteArray} (hs : okStr s) (hm : s ∈ l) : (Instr.lookup 86 (.map (some b)) (.string s) false).run Try.prog w = .ok (.bool true) w := by
  rw [h.look Try.underlying86 (zero4 w) (plain4 false) s hs, setF_mem hm]; rfl
theorem SM.hasnt {w : World} {b n : Nat} {l : List ByteArray} (h : SM w 4 b n (setF l)) {s : ByteArray} (hs : okStr s) (hm : s ∉ l) : (Instr.lookup 86 (.map (some b)) (.string s) false).run Try.prog w = .ok (.bool false) w := by
  rw [h.look Try.underlying86 (zero4 w) (plain4 false) s hs, setF_not hm]; rfl
theorem nodup_take_succ {α : Type} {l : List α} {k : Nat} {o : α} (h : l[k]? = some o) (hn : (l.take k).Nodup) (ho : o ∉ l.take k) : (l.take (k + 1)).Nodup := by
  have hk : k < l.length := (List.getElem?_eq_some_iff.1 h).1
  have e : l[k] = o := (List.getElem?_eq_some_iff.1 h).2
  rw [List.take_succ_eq_append_getElem hk, List.nodup_append]
  refine ⟨hn, by simp, ?_⟩
  intro a ha b hb
  simp at hb
  rw [hb, e]
  intro h3; rw [h3] at ha; exact ho ha

theorem str_empty (a : ByteArray) : (a.toList.isEmpty = true ∧ Hid (a = ⟨#[]⟩)) ∨ (a.toList.isEmpty = false ∧ a ≠ ⟨#[]⟩) := by
  rw [ByteArray.toList_eq]
  obtain ⟨⟨l⟩⟩ := a
  cases l with
  | nil => left; exact ⟨rfl, rfl⟩
  | cons x r => right; exact ⟨rfl, by intro h; simp at h⟩

/-- No id is empty, none comes twice. -/
def IdsOk (l : List ByteArray) : Prop := l.Nodup ∧ ∀ s ∈ l, s ≠ ⟨#[]⟩

set_option maxRecDepth 100000 in
set_option maxHeartbeats 800000 in
theorem firstID_any (v : Value) (l : List ByteArray) (w : World) (h : StrsAt w v l) (hn : l.length ≤ 1048576) :
    Calls Try.prog 25 #[v] w fun e w' => ∃ z p : Int, ((z = -1 ∧ IdsOk l) ∨ ∃ k : Nat, z = k ∧ k < l.length) ∧ e = .returned (.tuple #[.int .i64 z, .int .i64 p]) ∧ Ext w w' := by
  obtain ⟨ao, cap, rfl, hcap⟩ := h.shape
  have hmm := run_makeMap_hint 86 9 4 Try.underlying86
  go_enter Try.func25, Try.ntmps25
  go_wp2_with fail
  go_loopw [5] (fun j wr => ∃ k : Nat, j = .int .i64 k ∧ k ≤ l.length ∧ (l.take k).Nodup ∧ (∀ s ∈ l.take k, s ≠ ⟨#[]⟩) ∧ SM wr 4 w.heap.size k (setF (l.take k)) ∧ Ext w wr) (fun i _ => l.length - (intOf i).toNat)
  case atStart => exact ⟨0, rfl, Nat.zero_le _, by simp, by simp, by rw [List.take_zero, setF_nil]; exact SM.made w 4, Ext.alloc _ _⟩
  case round =>
    obtain ⟨k, rfl, hk, hnd, hne, hsm, he⟩ := hrel
    clear hmm
    by_cases hlt : k < l.length
    · obtain ⟨o, ho⟩ := get_at l k hlt
      obtain ⟨b, off, rfl, c0, ok⟩ := (h.ext he).at ho
      have HO : Hid (l[k]? = some o) := ho
      clear ho
      rcases str_empty o with ⟨e, e'⟩ | ⟨e, e'⟩
      · clear hnd hne
        go_wp2_with fail
        go_ret2
        exact ⟨k, 1, Or.inr ⟨k, rfl, hlt⟩, rfl, he⟩
      · by_cases hin : o ∈ l.take k
        · have hlook := hsm.has ok hin
          clear hnd hne hin
          go_wp2_with fail
          go_ret2
          exact ⟨k, 2, Or.inr ⟨k, rfl, hlt⟩, rfl, he⟩
        · have hlook := hsm.hasnt ok hin
          have hnd' := nodup_take_succ HO.out hnd hin
          have hne' := all_take_succ HO.out hne e'
          clear hnd hne hin
          go_wp2_with (at_mapUpdate; refine wpList_put _ rfl _ _ _ rfl Try.underlying86 w.heap.size k _ rfl hsm (by unfold maxLen; omega) _ rfl ok (.bool true) rfl (plain4 true) ?_; intro w1 hsm1 hgrow1)
          go_roundw
          case rel => exact ⟨k + 1, by go_num, by omega, hnd', hne', by rw [← setF_succ HO.out]; exact hsm1, grown_ext he hgrow1 (by simp)⟩
          case measure => simp [intOf]; omega
    · obtain rfl : k = l.length := by omega
      rw [List.take_length] at hnd hne
      go_wp2
      go_ret2
      exact ⟨-1, 0, Or.inl ⟨rfl, hnd, hne⟩, rfl, he⟩

/-! ### parentsOf -/
def iI (z : Int) : Value := .int .i64 z
def parOf (ids : List ByteArray) (o : Org) : Int := if o.parent.toList.isEmpty = true then -1 else match idxTo ids ids.length o.parent with | some p => (p : Int) | none => -1
def parL (l : List Org) : List Int := l.map (parOf (l.map Org.id))
theorem parOf_empty {ids : List ByteArray} {o : Org} (h : o.parent.toList.isEmpty = true) : parOf ids o = -1 := by unfold parOf; rw [if_pos h]
theorem parOf_some {ids : List ByteArray} {o : Org} {p : Nat} (h : o.parent.toList.isEmpty = false) (hp : idxTo ids ids.length o.parent = some p) : parOf ids o = p := by
  unfold parOf; rw [if_neg (by simp [h]), hp]
theorem parOf_none {ids : List ByteArray} {o : Org} (h : o.parent.toList.isEmpty = false) (hp : idxTo ids ids.length o.parent = none) : parOf ids o = -1 := by
  unfold parOf; rw [if_neg (by simp [h]), hp]
theorem take_set_succ {α : Type} (xs : List α) (k : Nat) (v : α) (h : k < xs.length) : (xs.set k v).take (k + 1) = xs.take k ++ [v] := by
  rw [List.take_succ_eq_append_getElem (by simpa using h), List.take_set, List.set_eq_of_length_le (by simp; omega)]
  simp
theorem map_take_succ {α β : Type} {l : List α} {k : Nat} {o : α} (f : α → β) (h : l[k]? = some o) : (l.take (k + 1)).map f = (l.take k).map f ++ [f o] := by
  have hk : k < l.length := (List.getElem?_eq_some_iff.1 h).1
  have e : l[k] = o := (List.getElem?_eq_some_iff.1 h).2
  rw [List.take_succ_eq_append_getElem hk, List.map_append, e]; rfl
theorem Try.infos3 : (Try.prog.info? 3).map (fun i => (i.zero, i.size, i.bytes)) = some (some (.int .i64 0), 1, 8) := by kernel_rfl
theorem SM.pos {w : World} {b n k : Nat} {ids : List ByteArray} (h : SM w 3 b n (posF ids k)) {s : ByteArray} (hs : okStr s) {p : Nat} (hp : idxTo ids k s = some p) : (Instr.lookup 58 (.map (some b)) (.string s) true).run Try.prog w = .ok (.tuple #[.int .i64 p, .bool true]) w := by
  rw [h.look_ok Try.underlying58 (zero3 w) plain3z s hs]; unfold posF; rw [hp]; rfl
theorem SM.nopos {w : World} {b n k : Nat} {ids : List ByteArray} (h : SM w 3 b n (posF ids k)) {s : ByteArray} (hs : okStr s) (hp : idxTo ids k s = none) : (Instr.lookup 58 (.map (some b)) (.string s) true).run Try.prog w = .ok (.tuple #[.int .i64 0, .bool false]) w := by
  rw [h.look_ok Try.underlying58 (zero3 w) plain3z s hs]; unfold posF; rw [hp]; rfl
theorem SM.pos1 {w : World} {b n k : Nat} {ids : List ByteArray} (h : SM w 3 b n (posF ids k)) {s : ByteArray} (hs : okStr s) {p : Nat} (hp : idxTo ids k s = some p) : (Instr.lookup 58 (.map (some b)) (.string s) false).run Try.prog w = .ok (.int .i64 p) w := by
  rw [h.look Try.underlying58 (zero3 w) plain3z s hs]; unfold posF; rw [hp]; rfl
theorem SM.nopos1 {w : World} {b n k : Nat} {ids : List ByteArray} (h : SM w 3 b n (posF ids k)) {s : ByteArray} (hs : okStr s) (hp : idxTo ids k s = none) : (Instr.lookup 58 (.map (some b)) (.string s) false).run Try.prog w = .ok (.int .i64 0) w := by
  rw [h.look Try.underlying58 (zero3 w) plain3z s hs]; unfold posF; rw [hp]; rfl

set_option maxRecDepth 100000 in
set_option maxHeartbeats 800000 in
theorem parentsOf_any (v : Value) (l : List Org) (b N : Nat) (w : World) (h : OrgsAt w v l) (hn : l.length ≤ 1048576) (hm : SM w 3 b N (posF (l.map Org.id) (l.map Org.id).length)) :
    Calls Try.prog 19 #[v, .map (some b)] w fun e w' => ∃ g, e = .returned (.slice (some ⟨g, 0, none⟩) l.length l.length) ∧ Blk w' g ((parL l).map iI) ∧ Ext w w' ∧ w.heap.size ≤ g := by
  obtain ⟨ao, cap, rfl, hcap⟩ := h.shape
  go_enter Try.func19, Try.ntmps19
  go_wp2_with (at_make; refine wpList_mk _ rfl _ _ 66 rfl 3 (.int .i64 0) 1 8 Try.underlying66 Try.infos3 l.length rfl rfl (by omega) (by omega) ?_; intro w0 hb0 hg0)
  rw [made_one _ rfl] at hb0
  have he0 : Ext w w0 := grown_ext (Ext.refl w) hg0 (by simp)
  go_loopw [14] (fun j wr => ∃ (k : Nat) (xs : List Value), j = .int .i64 k ∧ k ≤ l.length ∧ xs.length = l.length ∧ Hid (xs.take k = ((parL l).take k).map iI) ∧ Blk wr w.heap.size xs ∧ Ext w wr) (fun i _ => l.length - (intOf i).toNat)
  case atStart => exact ⟨0, _, rfl, Nat.zero_le _, by simp, by simp [Hid], hb0, he0⟩
  case round =>
    obtain ⟨k, xs, rfl, hk, hxl, hx, hb, he⟩ := hrel
    clear hb0 hg0 he0
    by_cases hlt : k < l.length
    · obtain ⟨o, ho⟩ := get_at l k hlt
      obtain ⟨bb, off, rfl, c0, c1, c2, ok⟩ := h.at ho
      have d2 := he.cell c2
      have HP : Hid ((parL l)[k]? = some (parOf (l.map Org.id) o)) := by show _ = _; unfold parL; rw [List.getElem?_map, ho]; rfl
      clear ho c0 c1
      have HX : ∀ z : Int, parOf (l.map Org.id) o = z → Hid ((xs.set k (iI z)).take (k + 1) = ((parL l).take (k + 1)).map iI) := by
        intro z hz
        show _ = _
        rw [take_set_succ _ _ _ (by omega), map_take_succ iI HP.out, hx.out, hz]
      rcases str_empty o.parent with ⟨e, e'⟩ | ⟨e, e'⟩
      · have HX2 := HX (-1) (parOf_empty e)
        clear HX
        go_wp2_with (refine wpList_st1 _ rfl 3 _ _ rfl w.heap.size k xs (.int .i64 (-1)) rfl hb rfl Try.info3 (by omega) rfl ?_; intro w1 hb1 hg1; have he1 := grown_ext he hg1 (by simp); have c2' := he1.cell c2)
        go_roundw
        case rel => exact ⟨k + 1, _, by go_num, by omega, by simp [hxl], HX2, hb1, he1⟩
        case measure => simp [intOf]; omega
      · cases hp : idxTo (l.map Org.id) (l.map Org.id).length o.parent with
        | none =>
          have HX2 := HX (-1) (parOf_none e hp)
          have hlk := fun (w1 : World) (he1 : Ext w w1) => (hm.ext he1).nopos ok.2.2 hp
          clear HX hp
          go_wp2_with (refine wpList_st1 _ rfl 3 _ _ rfl w.heap.size k xs (.int .i64 (-1)) rfl hb rfl Try.info3 (by omega) rfl ?_; intro w1 hb1 hg1; have he1 := grown_ext he hg1 (by simp); have c2' := he1.cell c2; have hlk1 := hlk w1 he1; clear hlk)
          go_roundw
          case rel => exact ⟨k + 1, _, by go_num, by omega, by simp [hxl], HX2, hb1, he1⟩
          case measure => simp [intOf]; omega
        | some p =>
          have HX2 := HX p (parOf_some e hp)
          have hlk := fun (w1 : World) (he1 : Ext w w1) => (hm.ext he1).pos ok.2.2 hp
          clear HX hp
          go_wp2_with (first
            | (refine wpList_st1 _ rfl 3 _ _ rfl w.heap.size k xs (.int .i64 (-1)) rfl hb rfl Try.info3 (by omega) rfl ?_; intro w1 hb1 hg1; have he1 := grown_ext he hg1 (by simp); have c2' := he1.cell c2; have hlk1 := hlk w1 he1; clear hlk)
            | (refine wpList_st1 _ rfl 3 _ _ rfl w.heap.size k _ (.int .i64 p) rfl hb1 rfl Try.info3 (by simp; omega) rfl ?_; intro w2 hb2 hg2; have he2 := grown_ext he1 hg2 (by simp)))
          go_roundw
          case rel => exact ⟨k + 1, _, by go_num, by omega, by simp [hxl], by rw [List.set_set]; exact HX2, hb2, he2⟩
          case measure => simp [intOf]; omega
    · obtain rfl : k = l.length := by omega
      go_wp2
      go_ret
      refine ⟨_, rfl, ?_, he, Nat.le_refl _⟩
      have h1 : xs.take l.length = xs := by rw [← hxl, List.take_length]
      have h2 : (parL l).take l.length = parL l := by have : (parL l).length = l.length := by simp [parL]
                                                      rw [← this, List.take_length]
      have h3 := hx.out
      rw [h1, h2] at h3
      rw [← h3]; exact hb
end Go.Proofs.Qxb6609292a
