/-
  MEMORY LAWS for seat b6612180aD: 'append' onto a row whose block bears whatever label (a slice of a local array, or a row that make or append has laid).
-/
import Derived.Test.Qxb6612180aDoorRows
import Derived.Test.Qxb6612180aDoorPlain
import Derived.WalkKit
import Derived.WalkSpells
import Derived.WalkSmall
import Derived.BigQuiet
import Derived.ArgAppend
namespace Go.Proofs.Qxb6612180aDoor
open Go.RowKit

def Bt (c : UInt8) : Value := .int .u8 (c.toNat : Int)
theorem bt_one (l : List UInt8) : ∀ u ∈ l.map Bt, u.oneCell' = true := by
  intro u hu
  obtain ⟨c, _, rfl⟩ := List.mem_map.1 hu
  rfl
theorem Tryd.info5 : (Tryd.prog.info? 5).map (fun i => (i.zero, i.size, i.bytes)) = some (some (.int .u8 0), 1, 1) := by kernel_rfl

section
variable {P : Program} (w : World)
theorem run_append_fits_lab (base : Nat) (t ty e lab : TypeId) (i : TypeInfo) (ht : P.underlying t = some (.slice e)) (hi : P.info? e = some i) (hsize : i.size = 1)
    (g n cap : Nat) (xs : List Value) (hown : w.ownsRow base lab 1 (.slice (some ⟨g, 0, none⟩) n cap) n xs)
    (a : Addr) (m c : Nat) (news : List Value) (hl : news.length = m) (hnews : ∀ j u, news[j]? = some u → w.cell? (a.add j) = some u) (h1 : ∀ u ∈ news, u.oneCell' = true)
    (hroom : n + m ≤ cap) :
    ∃ w', (Builtin.append_ #[t, t] ty #[.slice (some ⟨g, 0, none⟩) n cap, .slice (some a) m c]).run P w = .ok (.slice (some ⟨g, 0, none⟩) (n + m) cap) w' ∧
      w'.ownsRow base lab 1 (.slice (some ⟨g, 0, none⟩) (n + m) cap) (n + m) (xs ++ news) ∧ w.grownBy w' (some g) := by
  have hx := hown.1
  have hlen : (xs ++ news).length = (n + m) * 1 := by rw [List.length_append, hx, hl]; omega
  rcases hown.2 with ⟨h, _⟩ | ⟨g', cap', cur, h, hbg, hg, hnc, hcm, hcs, htake⟩
  · simp at h
  · simp only [Value.slice.injEq, Option.some.injEq, Addr.mk.injEq, and_true, true_and] at h
    obtain ⟨rfl, rfl⟩ := h
    have hfit : n + news.length ≤ cur.size := by omega
    have hf := run_firstCells_some (P := P) w 1 m a m c news (by omega) hnews
    have hst := run_storeCells_at P g n lab news 0 cur w hg (by simpa using hfit) h1
    simp only [Nat.add_zero] at hst
    have hr : (Builtin.append_ #[t, t] ty #[.slice (some ⟨g, 0, none⟩) n cap, .slice (some a) m c]).run P w = .ok (.slice (some ⟨g, 0, none⟩) (n + m) cap) (w.setRow g (cur.toList.take n ++ news ++ cur.toList.drop (n + news.length)).toArray) := by
      simp [Builtin.append_, run_underlying ht, sizeOf, typeInfo, hi, hsize, Builtin.lenOf, hroom, hf, Addr.add_lit, hst]
    refine ⟨_, hr, ⟨hlen, .inr ⟨g, cap, _, rfl, hbg, setRow_heap w g cur _ lab _ hg, hroom, hcm, ?_, ?_⟩⟩, ⟨rfl, rfl, rfl, by simp, fun k _ hk => setRow_other w g k _ (fun e => hk (by simp [e]))⟩⟩
    · simp only [List.size_toArray, List.length_append, List.length_take, List.length_drop, Array.length_toList]
      omega
    · rw [Nat.mul_one] at htake
      rw [htake, ← hlen]
      exact List.take_left

theorem run_append_lab (base : Nat) (t ty e lab : TypeId) (i : TypeInfo) (z : Value) (ht : P.underlying t = some (.slice e)) (hi : P.info? e = some i) (hz : i.zero = some z)
    (hsize : i.size = 1) (hby : i.bytes = 1) (hzs : z.cells.size = 1)
    (g n cap : Nat) (xs : List Value) (hown : w.ownsRow base lab 1 (.slice (some ⟨g, 0, none⟩) n cap) n xs)
    (a : Addr) (m c : Nat) (news : List Value) (hl : news.length = m) (hnews : ∀ j u, news[j]? = some u → w.cell? (a.add j) = some u) (h1 : ∀ u ∈ news, u.oneCell' = true)
    (hbig : n + m ≤ 140737488355328) (hbase : base ≤ w.heap.size) :
    ∃ v' w' lab', (Builtin.append_ #[t, t] ty #[.slice (some ⟨g, 0, none⟩) n cap, .slice (some a) m c]).run P w = .ok v' w' ∧
      w'.ownsRow base lab' 1 v' (n + m) (xs ++ news) ∧ w.grownBy w' (some g) := by
  by_cases hroom : n + m ≤ cap
  · obtain ⟨w', hr, ho, hg⟩ := run_append_fits_lab (P := P) w base t ty e lab i ht hi hsize g n cap xs hown a m c news hl hnews h1 hroom
    exact ⟨_, w', lab, hr, ho, hg⟩
  · obtain ⟨v', w', hr, ho, hg⟩ := run_append_arg_grows (P := P) w t ty e i z 1 1 ht hi hz hsize hby hzs (by decide) ⟨g, 0, none⟩ n cap xs hown.1 (fun j u hj => by
      have hjn := (List.getElem?_eq_some_iff.1 hj).1
      have hx := hown.1
      have := hown.cellAt j (by omega)
      rw [Addr.add_lit, Nat.zero_add, this, hj]) a m c news (by omega) hnews (by omega) (by unfold maxLen; omega) (by omega)
    refine ⟨v', w', e, hr, ?_, ⟨hg.os, hg.tape, hg.output, hg.size, fun k hk _ => hg.block k hk (by simp)⟩⟩
    refine ⟨ho.1, ho.2.imp id ?_⟩
    rintro ⟨g', cap', cur, r1, r2, r3⟩
    exact ⟨g', cap', cur, r1, Nat.le_trans hbase r2, r3⟩
end

theorem wpList_append_lab {P : Program} (w : World) {ops : Array Oper} {rest : List Oper} {o : Oper} {a : Act} {Q : Exit → Act → World → Prop}
    (hg : o.guard = none) (s x : Operand) (t : TypeId) (hop : o.op = Op.call { callee := Callee.builtin Builtin.append, args := #[s, x], argTypes := #[t, t] })
    (base : Nat) (e lab : TypeId) (i : TypeInfo) (z : Value) (h1 : P.underlying t = some (.slice e)) (h2 : P.info? e = some i) (h3 : i.zero = some z) (h4 : i.size = 1) (h5 : i.bytes = 1) (h6 : z.cells.size = 1)
    (g n cap : Nat) (xs : List Value) (hs : a.eval s = .slice (some ⟨g, 0, none⟩) n cap) (hown : w.ownsRow base lab 1 (.slice (some ⟨g, 0, none⟩) n cap) n xs)
    (ad : Addr) (m c : Nat) (news : List Value) (hx : a.eval x = .slice (some ad) m c) (hn : news.length = m) (hc : ∀ j u, news[j]? = some u → w.cell? (ad.add j) = some u) (h1c : ∀ u ∈ news, u.oneCell' = true)
    (hbig : n + m ≤ 140737488355328) (hbase : base ≤ w.heap.size)
    (hK : ∀ v' w' lab', w'.ownsRow base lab' 1 v' (n + m) (xs ++ news) → w.grownBy w' (some g) → wpList P ops Q rest (a.put o.dst v') w') :
    wpList P ops Q (o :: rest) a w := by
  refine wpList_plain hg fun K hK' => ?_
  obtain ⟨v', w', lab', hrun, r1, r2⟩ := run_append_lab (P := P) w base t o.type e lab i z h1 h2 h3 h4 h5 h6 g n cap xs hown ad m c news hn hc h1c hbig hbase
  unfold Oper.wp
  simp [execOp, hop, resolve, invoke, builtin, hs, hx, hrun, Result.andThen]
  exact hK' _ _ (hK v' w' lab' r1 r2)

theorem wpList_append_fits_lab {P : Program} (w : World) {ops : Array Oper} {rest : List Oper} {o : Oper} {a : Act} {Q : Exit → Act → World → Prop}
    (hg : o.guard = none) (s x : Operand) (t : TypeId) (hop : o.op = Op.call { callee := Callee.builtin Builtin.append, args := #[s, x], argTypes := #[t, t] })
    (base : Nat) (e lab : TypeId) (i : TypeInfo) (h1 : P.underlying t = some (.slice e)) (h2 : P.info? e = some i) (h4 : i.size = 1)
    (g n cap : Nat) (xs : List Value) (hs : a.eval s = .slice (some ⟨g, 0, none⟩) n cap) (hown : w.ownsRow base lab 1 (.slice (some ⟨g, 0, none⟩) n cap) n xs)
    (ad : Addr) (m c : Nat) (news : List Value) (hx : a.eval x = .slice (some ad) m c) (hn : news.length = m) (hc : ∀ j u, news[j]? = some u → w.cell? (ad.add j) = some u) (h1c : ∀ u ∈ news, u.oneCell' = true)
    (hroom : n + m ≤ cap)
    (hK : ∀ w', w'.ownsRow base lab 1 (.slice (some ⟨g, 0, none⟩) (n + m) cap) (n + m) (xs ++ news) → w.grownBy w' (some g) → wpList P ops Q rest (a.put o.dst (.slice (some ⟨g, 0, none⟩) (n + m) cap)) w') :
    wpList P ops Q (o :: rest) a w := by
  refine wpList_plain hg fun K hK' => ?_
  obtain ⟨w', hrun, r1, r2⟩ := run_append_fits_lab (P := P) w base t o.type e lab i h1 h2 h4 g n cap xs hown ad m c news hn hc h1c hroom
  unfold Oper.wp
  simp [execOp, hop, resolve, invoke, builtin, hs, hx, hrun, Result.andThen]
  exact hK' _ _ (hK w' r1 r2)

theorem cell_new (w : World) (v : Value) (t : TypeId) : ∀ j u, [v][j]? = some u → (w.alloc (.cells #[v] t)).cell? ((⟨w.heap.size, 0, none⟩ : Addr).add j) = some u := by
  intro j u hj
  match j, hj with
  | 0, hj => simp at hj; subst hj; simp [Addr.add]
theorem one_int (k : IntKind) (x : Int) : ∀ u ∈ [Value.int k x], u.oneCell' = true := by
  intro u hu; simp at hu; subst hu; rfl

/-- The shape of a row that is not empty. -/
theorem own_shape {w : World} {B e n : Nat} {v : Value} {xs : List Value} (h : w.ownsRow B e 1 v n xs) (hn : 0 < n) : ∃ g cap, v = .slice (some ⟨g, 0, none⟩) n cap ∧ B ≤ g ∧ g < w.heap.size ∧ n ≤ cap ∧ cap ≤ maxLen := by
  rcases h.2 with ⟨_, h0⟩ | ⟨g, cap, cur, hv, hb, hg, hnc, hcm, _⟩
  · omega
  · exact ⟨g, cap, hv, hb, (h.lt g (by rw [hv]; rfl)).2, hnc, hcm⟩
end Go.Proofs.Qxb6612180aDoor
