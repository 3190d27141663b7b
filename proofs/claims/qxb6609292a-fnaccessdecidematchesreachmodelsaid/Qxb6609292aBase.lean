/-
  BASE for seat b6609292a: what a walk is told of memory: cells that stay, maps keyed by strings, slices whose elements are rows of cells.
-/
import Derived.Test.Qxb6609292aRows
import Derived.WalkKit
import Derived.WalkSpells
import Derived.WalkSmall
import Derived.BigQuiet
import Derived.Deep.QuietTactic
import Derived.Maps.Own
import Derived.Maps.OwnOps
import Derived.Maps.OwnSet
import Derived.Maps.Views
import Derived.Deep.Cut
import Derived.Deep.DeepCutAuto
set_option linter.unusedVariables false
namespace Go.Proofs.Qxb6609292a
open Go.RowKit Go.Maps
open Go.WideMaps Go.WideElems

/-- All that lay in w lies in w'. -/
def Ext (w w' : World) : Prop := Below w.heap.size w w'
theorem Ext.refl (w : World) : Ext w w := Below.refl _ _
theorem Ext.trans {a b c : World} (h : Ext a b) (k : Ext b c) : Ext a c := Below.trans h (Below.mono k h.size)
theorem Ext.alloc (w : World) (o : Obj) : Ext w (w.alloc o) := (Below.refl _ _).alloc (Nat.le_refl _) _
theorem Ext.drew (w : World) : Ext w w.drew := (Below.refl _ _).drew
theorem Ext.drewN (w : World) (n : Nat) : Ext w (w.drewN n) := below_drewN (Below.refl _ _) n
theorem Ext.size {w w' : World} (h : Ext w w') : w.heap.size ≤ w'.heap.size := Below.size h
theorem Ext.block {w w' : World} (h : Ext w w') {b : Nat} {o : Obj} (hb : w.heap[b]? = some o) : w'.heap[b]? = some o := by
  have hlt : b < w.heap.size := (Array.getElem?_eq_some_iff.1 hb).1
  rw [Below.block h b hlt]; exact hb
theorem cell_lt {w : World} {b o : Nat} {v : Value} (h : w.cell? ⟨b, o, none⟩ = some v) : b < w.heap.size := by
  false_or_by_contra
  rename_i hn
  have : w.heap[b]? = none := by simp; omega
  simp [World.cell?, this] at h
theorem Ext.cell {w w' : World} (h : Ext w w') {b o : Nat} {v : Value} (hc : w.cell? ⟨b, o, none⟩ = some v) : w'.cell? ⟨b, o, none⟩ = some v := by
  rw [Below.cell h (p := ⟨b, o, none⟩) (cell_lt hc)]; exact hc

/-! ### maps keyed by strings -/
def key (s : ByteArray) : Lit := .string s.data.toList
theorem key_inj {s t : ByteArray} (h : key s = key t) : s = t := by
  simp only [key, Lit.string.injEq] at h
  have : s.data = t.data := by simpa using h
  cases s; cases t; simp at this; rw [this]
def okStr (s : ByteArray) : Prop := s.size ≤ maxLen

/-- Block b is a map from strings, of at most n entries, that answers as f does. -/
def SM (w : World) (E : TypeId) (b n : Nat) (f : ByteArray → Option Value) : Prop :=
  ∃ D : DataW Unit, w.ownsMap Try.prog 9 (plainElem Try.prog E) b n D ∧
    ∀ s, okStr s → match f s with
      | none => Maps.has D (key s) = false
      | some v => ∃ d, plainElem (H := Unit) Try.prog E v = some (d, []) ∧ ∀ z, D.atKey (key s) z = d

theorem law9 : Keyed Try.prog 9 := string_keyed Try.underlying9
theorem hkey (s : ByteArray) (h : okStr s) : keyOf Try.prog 9 (.string s) = some (key s) := keyOf_string_mk Try.underlying9 h

theorem SM.made (w : World) (E : TypeId) : SM (w.alloc (.map #[] 0)) E w.heap.size 0 (fun _ => none) :=
  ⟨.map [], World.ownsMap_made _ _ _ _, fun s _ => rfl⟩
theorem SM.lt {w : World} {E : TypeId} {b n : Nat} {f : ByteArray → Option Value} (h : SM w E b n f) : b < w.heap.size := by
  obtain ⟨D, hD, _⟩ := h; exact hD.lt
theorem SM.mono {w : World} {E : TypeId} {b n n' : Nat} {f : ByteArray → Option Value} (h : SM w E b n f) (hn : n ≤ n') : SM w E b n' f := by
  obtain ⟨D, hD, h2⟩ := h; exact ⟨D, hD.mono hn, h2⟩
theorem SM.kept {w w' : World} {E : TypeId} {b n : Nat} {f : ByteArray → Option Value} {row : Option Nat} (h : SM w E b n f) (hg : w.grownBy w' row) (hne : some b ≠ row) : SM w' E b n f := by
  obtain ⟨D, hD, h2⟩ := h; exact ⟨D, hD.kept hg hne, h2⟩
theorem SM.ext {w w' : World} {E : TypeId} {b n : Nat} {f : ByteArray → Option Value} (h : SM w E b n f) (he : Ext w w') : SM w' E b n f := by
  obtain ⟨D, ⟨es, clock, hb, r⟩, h2⟩ := h; exact ⟨D, ⟨es, clock, he.block hb, r⟩, h2⟩
theorem SM.congr {w : World} {E : TypeId} {b n : Nat} {f g : ByteArray → Option Value} (h : SM w E b n f) (hfg : ∀ s, okStr s → f s = g s) : SM w E b n g := by
  obtain ⟨D, hD, h2⟩ := h
  refine ⟨D, hD, fun s hs => ?_⟩
  rw [← hfg s hs]; exact h2 s hs

theorem plain_inj {E : TypeId} {v v' : Value} {z : DataW Unit × List MemPlace} (h : plainElem Try.prog E v = some z) (h' : plainElem Try.prog E v' = some z) : v = v' := by
  unfold plainElem at h h'
  cases hu : Try.prog.underlying E with
  | none => rw [hu] at h; simp at h
  | some d =>
    rw [hu] at h h'
    cases d <;> cases v <;> simp at h <;> cases v' <;> simp at h'
    · rw [← h] at h'; simp at h'; rw [h']
    · obtain ⟨⟨rfl, _⟩, rfl⟩ := h
      obtain ⟨⟨rfl, _⟩, h3⟩ := h'
      simp at h3; rw [h3]
    · obtain ⟨_, rfl⟩ := h
      obtain ⟨_, h3⟩ := h'
      simp at h3
      rename_i s t _ _
      have := key_inj (s := t) (t := s) (by unfold key; rw [h3])
      rw [this]

/-- 'm[s]'. -/
theorem SM.look {w : World} {T E : TypeId} {b n : Nat} {f : ByteArray → Option Value} (h : SM w E b n f) (hT : Try.prog.underlying T = some (.map 9 E)) {z : Value} (hz : (zeroValue E).run Try.prog w = .ok z w)
    {zd : DataW Unit} (hzd : plainElem Try.prog E z = some (zd, [])) (s : ByteArray) (hs : okStr s) :
    (Instr.lookup T (.map (some b)) (.string s) false).run Try.prog w = .ok ((f s).getD z) w := by
  obtain ⟨D, hD, h2⟩ := h
  obtain ⟨v, ps, hrun, hv⟩ := hD.lookup law9 hT hz hzd (hkey s hs)
  have hp := plainElem_places hv
  simp only at hp
  subst hp
  rw [hrun]
  have h3 := h2 s hs
  cases hf : f s with
  | none =>
    rw [hf] at h3
    rw [Maps.atKey_of_not_has h3] at hv
    rw [plain_inj hv hzd]; rfl
  | some u =>
    rw [hf] at h3
    obtain ⟨d, hd, hat⟩ := h3
    rw [hat] at hv
    rw [plain_inj hv hd]; rfl
/-- 'v, ok := m[s]'. -/
theorem SM.look_ok {w : World} {T E : TypeId} {b n : Nat} {f : ByteArray → Option Value} (h : SM w E b n f) (hT : Try.prog.underlying T = some (.map 9 E)) {z : Value} (hz : (zeroValue E).run Try.prog w = .ok z w)
    {zd : DataW Unit} (hzd : plainElem Try.prog E z = some (zd, [])) (s : ByteArray) (hs : okStr s) :
    (Instr.lookup T (.map (some b)) (.string s) true).run Try.prog w = .ok (.tuple #[(f s).getD z, .bool (f s).isSome]) w := by
  obtain ⟨D, hD, h2⟩ := h
  obtain ⟨v, ps, hrun, hv⟩ := hD.look_ok law9 hT hz hzd (hkey s hs)
  have hp := plainElem_places hv
  simp only at hp
  subst hp
  rw [hrun]
  have h3 := h2 s hs
  cases hf : f s with
  | none =>
    rw [hf] at h3
    rw [Maps.atKey_of_not_has h3] at hv
    rw [plain_inj hv hzd, h3]; rfl
  | some u =>
    rw [hf] at h3
    obtain ⟨d, hd, hat⟩ := h3
    rw [hat] at hv
    rw [plain_inj hv hd, Maps.has_true_of_atKey hat]; rfl

def upd (f : ByteArray → Option Value) (s : ByteArray) (v : Value) : ByteArray → Option Value := fun t => if t = s then some v else f t

/-- 'm[s] = v'. -/
theorem SM.put {w : World} {T E : TypeId} {b n : Nat} {f : ByteArray → Option Value} (h : SM w E b n f) (hT : Try.prog.underlying T = some (.map 9 E)) (hn : n < maxLen) (s : ByteArray) (hs : okStr s) (v : Value)
    {d : DataW Unit} (hv : plainElem Try.prog E v = some (d, [])) :
    ∃ w', (Instr.mapUpdate T (.map (some b)) (.string s) v).run Try.prog w = .ok () w' ∧ SM w' E b (n + 1) (upd f s v) ∧ w.grownBy w' (some b) := by
  obtain ⟨D, hD, h2⟩ := h
  have htidy := hD.tidy law9
  obtain ⟨w', hrun, hD', hg⟩ := hD.update law9 hT hn (hkey s hs) hv
  refine ⟨w', hrun, ⟨_, hD', fun t ht => ?_⟩, hg⟩
  unfold upd
  by_cases hts : t = s
  · subst hts
    rw [if_pos rfl]
    exact ⟨d, hv, fun z => Maps.atKey_put_same htidy.isMap (by unfold key; trivial) d z⟩
  · rw [if_neg hts]
    have hne : key t ≠ key s := fun e => hts (key_inj e)
    have h3 := h2 t ht
    cases hf : f t with
    | none =>
      rw [hf] at h3
      show Maps.has _ _ = false
      rw [Maps.has_put_other hne]; exact h3
    | some u =>
      rw [hf] at h3
      obtain ⟨d', hd', hat⟩ := h3
      exact ⟨d', hd', fun z => by rw [Maps.atKey_put_other hne]; exact hat z⟩

theorem wpList_put {T E : TypeId} (w : World) {ops : Array Oper} {rest : List Oper} {o : Oper} {a : Act} {Q : Exit → Act → World → Prop}
    (hg : o.guard = none) (m x v : Operand) (hop : o.op = Op.mapUpdate T m x v) (hT : Try.prog.underlying T = some (.map 9 E)) (b n : Nat) (f : ByteArray → Option Value)
    (hm : a.eval m = .map (some b)) (h : SM w E b n f) (hn : n < maxLen) (s : ByteArray) (hx : a.eval x = .string s) (hs : okStr s) (val : Value) (hv : a.eval v = val) {d : DataW Unit} (hval : plainElem Try.prog E val = some (d, []))
    (hK : ∀ w', SM w' E b (n + 1) (upd f s val) → w.grownBy w' (some b) → wpList Try.prog ops Q rest (a.put o.dst undef) w') :
    wpList Try.prog ops Q (o :: rest) a w := by
  refine wpList_plain hg fun K' hK' => ?_
  obtain ⟨w', hrun, r1, r2⟩ := h.put hT hn s hs val hval
  unfold Oper.wp
  simp [execOp, hop, hm, hx, hv, hrun, Result.andThen]
  exact hK' _ _ (hK w' r1 r2)

theorem run_makeMap_hint (T K E : TypeId) (hT : Try.prog.underlying T = some (.map K E)) (k : IntKind) (n : Int) (w : World) : (Instr.makeMap T (some (.int k n))).run Try.prog w = .ok (.map (some w.heap.size)) (w.alloc (.map #[] 0)) := by
  simp [Instr.makeMap, run_underlying hT]
  rfl

/-! ### slices -/
/-- The slice v has as many elements as xs; each is a row of k cells. -/
def RowsAt (w : World) (v : Value) (k : Nat) (xs : List (List Value)) : Prop :=
  ∃ ao cap, v = .slice ao xs.length cap ∧ xs.length ≤ cap ∧ (xs ≠ [] → ∃ b off, ao = some ⟨b, off, none⟩ ∧ ∀ i x, xs[i]? = some x → ∀ j u, x[j]? = some u → w.cell? ⟨b, off + i * k + j, none⟩ = some u)
theorem RowsAt.ext {w w' : World} {v : Value} {k : Nat} {xs : List (List Value)} (h : RowsAt w v k xs) (he : Ext w w') : RowsAt w' v k xs := by
  obtain ⟨ao, cap, hv, hc, h2⟩ := h
  refine ⟨ao, cap, hv, hc, fun hne => ?_⟩
  obtain ⟨b, off, ha, h3⟩ := h2 hne
  exact ⟨b, off, ha, fun i x hx j u hu => he.cell (h3 i x hx j u hu)⟩
end Go.Proofs.Qxb6609292a
