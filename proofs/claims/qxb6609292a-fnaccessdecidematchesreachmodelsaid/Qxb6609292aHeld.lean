/-
  For seat b6609292a: a region that draws its order, inside a fence that bears a round or not: an operation that yields in every world that meets S may be taken first.
-/
import Derived.Test.Qxb6609292aWant0
import Derived.RangeFuncNested
import Derived.RangeFuncBound
import Derived.RangeFuncCalls
import Derived.RangeFuncLeaves
import Derived.Shelf.Abstract
import Derived.Shelf.RegionOpen
import Derived.OwnWalkIn
import Derived.TacticsInMore
import Derived.LoopNIn
import Derived.LoopIn
set_option linter.unusedVariables false
set_option linter.unusedSimpArgs false
namespace Go.Proofs.Qxb6609292a
open Go.RowKit Go.Shelf

section
variable {F : Fence} {n : Nat} {P : Program} {ops : Array Oper} {Q : Exit → Act → World → Prop} {S : World → Prop}

def notDefer (o : Oper) : Bool := match o.op with | .defer _ => false | _ => true
theorem notDefer_spec {o : Oper} (h : notDefer o = true) : ∀ c, o.op ≠ .defer c := by
  intro c hc
  simp [notDefer, hc] at h
theorem semAt_any (r : Option Nat) (ρ : Operand → Value) (o : Oper) (h : notDefer o = true) : o.semAt r ρ = execOp ρ o := by
  cases r with
  | none => exact Oper.semAt_none ρ o
  | some l => exact Oper.semAt_some l ρ o (notDefer_spec h)
/-- In every world that meets S the operation leaves v and does nothing else. -/
def YieldsS (P : Program) (ops : Array Oper) (S : World → Prop) (o : Oper) (v : Value) (a : Act) : Prop :=
  (Region.wanted o (yielded ops a.tmps) = true ∧ ∀ w, S w → (execOp a.eval o).run P w = .ok (.value v) w) ∨ (Region.wanted o (yielded ops a.tmps) = false ∧ v = undef)
theorem any_mem {α : Type} {xs : Array α} {p : α → Bool} (h : xs.any p = true) : ∃ e ∈ xs, p e = true := by
  rw [Array.any_eq_true] at h
  obtain ⟨i, hi, hp⟩ := h
  exact ⟨xs[i], Array.getElem_mem hi, hp⟩
/-- Operation j waits for operation i. -/
def depOn (ops : Array Oper) : Nat → Nat → Nat → Bool
  | 0, _, _ => false
  | f + 1, j, i => match ops[j]? with
    | some o => o.after.any fun e => Region.binds .any e && (e.on == i || depOn ops f e.on i)
    | none => false
def Closed (ops : Array Oper) (listed : Array Bool) : Prop := ∀ j, listed.getD j false = true → ∃ o, ops[j]? = some o ∧ ∀ e ∈ o.after, Region.binds .any e = true → listed.getD e.on false = true
def closedB (ops : Array Oper) (listed : Array Bool) : Bool := (List.range listed.size).all fun j => !(listed.getD j false) || match ops[j]? with
  | some o => o.after.all fun e => !(Region.binds .any e) || listed.getD e.on false
  | none => false
theorem closedB_spec {listed : Array Bool} (h : closedB ops listed = true) : Closed ops listed := by
  intro j hj
  unfold closedB at h
  rw [List.all_eq_true] at h
  have hlt : j < listed.size := by
    false_or_by_contra
    rename_i hn
    simp [Array.getElem?_eq_none (Nat.le_of_not_lt hn)] at hj
  have := h j (List.mem_range.2 hlt)
  rw [hj] at this
  simp only [Bool.not_true, Bool.false_or] at this
  cases ho : ops[j]? with
  | none => rw [ho] at this; cases this
  | some o =>
    rw [ho] at this
    refine ⟨o, rfl, fun e he hb => ?_⟩
    have h2 := (Array.all_eq_true_iff_forall_mem.1 this) e he
    rw [hb] at h2
    simpa using h2
theorem Closed.dep {listed : Array Bool} (h : Closed ops listed) : ∀ (f j i : Nat), listed.getD j false = true → depOn ops f j i = true → listed.getD i false = true
  | 0, _, _, _, hd => by simp [depOn] at hd
  | f + 1, j, i, hj, hd => by
    obtain ⟨o, ho, hall⟩ := h j hj
    unfold depOn at hd
    rw [ho] at hd
    simp only [] at hd
    obtain ⟨e, he, hb⟩ := any_mem hd
    rw [Bool.and_eq_true, Bool.or_eq_true] at hb
    have hl := hall e he hb.1
    rcases hb.2 with h1 | h1
    · rw [beq_iff_eq] at h1; rw [← h1]; exact hl
    · exact h.dep f e.on i hl h1
theorem Closed.ready {listed : Array Bool} (h : Closed ops listed) {j : Nat} (hj : j ∈ Region.ready .any ops listed) : Closed ops (listed.setIfInBounds j true) := by
  obtain ⟨hjun, oj, hoj, hall⟩ := mem_ready.1 hj
  intro k hk
  by_cases hjk : j = k
  · subst hjk
    exact ⟨oj, hoj, fun e he hb => getD_set_true (hall e he hb)⟩
  · rw [getD_set_ne false hjk] at hk
    obtain ⟨o, ho, h2⟩ := h k hk
    exact ⟨o, ho, fun e he hb => getD_set_true (h2 e he hb)⟩
/-- Operation t does not come up ahead of operation i. -/
def lateB (ops : Array Oper) (t i : Nat) : Bool := ops[t]?.isNone || depOn ops ops.size t i
def wpS (F : Fence) (n : Nat) (P : Program) (ops : Array Oper) (Q : Exit → Act → World → Prop) (S : World → Prop) (t : Nat) : Nat → Array Bool → Act → World → Prop
  | 0, listed, a, w => Region.ready .any ops listed = [] ∧ Q .normal a w
  | f + 1, listed, a, w => (Region.ready .any ops listed = [] → Q .normal a w) ∧ ∀ i ∈ Region.ready .any ops listed, wpOpIn F n P ops Q i (fun a' w' => (S w' ∨ (listed.setIfInBounds i true).getD t false = true) ∧ wpS F n P ops Q S t f (listed.setIfInBounds i true) a' w') a w
theorem wpAnyIn_of_wpS {t : Nat} : ∀ (f : Nat) (listed : Array Bool) (a : Act) (w : World), wpS F n P ops Q S t f listed a w → wpAnyIn F n P .any ops Q f listed a w
  | 0, _, _, _, h => h
  | f + 1, _, _, _, h => ⟨h.1, fun i hi => wpOpIn_mono (fun a' w' h' => wpAnyIn_of_wpS f _ a' w' h'.2) (h.2 i hi)⟩
theorem wpIn_region_S (S : World → Prop) (t : Nat) {id : Nat} {a : Act} {w : World} (hm : P.follows .mixedOrders = true) (h : wpS F n P ops Q S t ops.size (Array.replicate ops.size false) a w.drew) : (Code.region id ops true).wpIn F n P Q a w :=
  wpIn_region_any hm (wpAnyIn_of_wpS _ _ _ _ h)
theorem YieldsS.step (hF : ∀ f, F.fn f) (hnd : ∀ (j : Nat) (o : Oper), ops[j]? = some o → notDefer o = true) {i : Nat} {o : Oper} {v : Value} {a : Act} (hi : ops[i]? = some o) (hy : YieldsS P ops S o v a) {K : Act → World → Prop} {w : World} (hS : S w) (h : K (a.put o.dst v) w) :
    wpOpIn F n P ops Q i K a w := by
  unfold wpOpIn
  simp only [hi]
  rcases hy with ⟨hw, hv⟩ | ⟨hw, rfl⟩
  · simp only [hw, if_true, Oper.wpIn, semAt_any F.round a.eval o (hnd i o hi), hv w hS, Oper.uponIn]
    exact ⟨fun f _ => hF f, h⟩
  · simp only [hw, Bool.false_eq_true, if_false]
    exact ⟨fun f _ => hF f, h⟩
theorem YieldsS.same {o : Oper} {v : Value} {a a' : Act} (hy : YieldsS P ops S o v a) (he : execOp a'.eval o = execOp a.eval o) (hw : Region.wanted o (yielded ops a'.tmps) = Region.wanted o (yielded ops a.tmps)) : YieldsS P ops S o v a' := by
  unfold YieldsS at *; rw [he, hw]; exact hy
theorem wpOpIn_aside (hF : ∀ f, F.fn f) (hnd : ∀ (j : Nat) (o : Oper), ops[j]? = some o → notDefer o = true) {j : Nat} {oi oj : Oper} {v : Value} (hj : ops[j]? = some oj) (hap : oi.apart ops oj = true) (hsi : ∀ cs b, oi.op ≠ .select cs b) (hsj : ∀ cs b, oj.op ≠ .select cs b)
    (hQ : ∀ c a w, Q (.panic c) (a.put oi.dst v) w → Q (.panic c) a w) {K : Act → World → Prop} {a : Act} {w : World} (hy : YieldsS P ops S oi v a) (h : wpOpIn F n P ops Q j K (a.put oi.dst v) w) :
    wpOpIn F n P ops Q j (fun a' w' => YieldsS P ops S oi v a' ∧ K (a'.put oi.dst v) w') a w := by
  obtain ⟨h1, h2, h3⟩ := Oper.apart_spec hap
  have keep : ∀ (u : Value), YieldsS P ops S oi v (a.put oj.dst u) := fun u => hy.same (execOp_put oi hsi a oj.dst u h3) (wanted_put oi a oj.dst u h3)
  have hsem := semAt_any F.round
  have hnj := hnd j oj hj
  unfold wpOpIn at *
  simp only [hj] at h ⊢
  rw [wanted_put oj a oi.dst v h1] at h
  by_cases hw : Region.wanted oj (yielded ops a.tmps) = true
  · simp only [hw, if_true] at h ⊢
    unfold Oper.wpIn at *
    refine ⟨fun f _ => hF f, ?_⟩
    have h := h.2
    rw [hsem _ oj hnj, execOp_put oj hsj a oi.dst v h1] at h
    rw [hsem _ oj hnj]
    generalize hrr : (execOp a.eval oj).run P w = r at *
    cases r with
    | ok x w' =>
      cases x <;> simp only [Oper.uponIn] at h ⊢
      case value u => exact ⟨keep u, by rw [← Act.put_comm a v u h2]; exact h⟩
      case skip => exact ⟨keep _, by rw [← Act.put_comm a v undef h2]; exact h⟩
      case defer d =>
        have kd : ∀ (u : Value), YieldsS P ops S oi v ({ a with defers := d :: a.defers }.put oj.dst u) := fun u =>
          (hy.same (a' := { a with defers := d :: a.defers }) rfl rfl).same (execOp_put oi hsi _ oj.dst u h3) (wanted_put oi _ oj.dst u h3)
        refine ⟨kd _, ?_⟩
        rw [← Act.put_comm _ v undef h2, ← Act.put_defers]
        exact h
      case enter f args =>
        refine ⟨h.1, CallsIn.mono h.2 fun e w'' he => ?_⟩
        cases e with
        | returned u => exact ⟨keep u, by rw [← Act.put_comm a v u h2]; exact he⟩
        | panicked c => exact hQ _ _ _ he
        | outgrown => exact he
      case row row args => exact ⟨h.1, RowsIn.mono h.2 fun u w'' he => ⟨keep u, by rw [← Act.put_comm a v u h2]; exact he⟩⟩
      case round l f tmps assign body =>
        refine ⟨h.1, RoundIn.mono h.2 fun e w'' he => ?_⟩
        cases e with
        | returned u => exact ⟨keep u, by rw [← Act.put_comm a v u h2]; exact he⟩
        | panicked c => exact hQ _ _ _ he
        | outgrown => exact he
    | halt x w' =>
      cases x <;> simp only [Oper.uponIn] at h ⊢
      case panic u => exact hQ _ _ _ h
  · have hw' : Region.wanted oj (yielded ops a.tmps) = false := by simpa using hw
    simp only [hw', Bool.false_eq_true, if_false] at h ⊢
    exact ⟨fun f _ => hF f, keep _, by rw [← Act.put_comm a v undef h2]; exact h.2⟩
theorem wpS_first (hF : ∀ f, F.fn f) (hnd : ∀ (j : Nat) (o : Oper), ops[j]? = some o → notDefer o = true) {t i : Nat} {oi : Oper} {v : Value} (hi : ops[i]? = some oi) (hsel : ∀ (j : Nat) (o : Oper) cs b, ops[j]? = some o → o.op ≠ .select cs b)
    (hQ : ∀ c a w, Q (.panic c) (a.put oi.dst v) w → Q (.panic c) a w) (hlate : lateB ops t i = true) :
    ∀ (f : Nat) (listed : Array Bool) (a : Act) (w : World), Closed ops listed →
      (∀ j oj, ops[j]? = some oj → j ≠ i → listed.getD j true = false → (∀ e ∈ oj.after, Region.binds .any e = true → e.on ≠ i) → oi.apart ops oj = true) →
      i ∈ Region.ready .any ops listed → YieldsS P ops S oi v a → S w →
      wpS F n P ops Q S t f (listed.setIfInBounds i true) (a.put oi.dst v) w → wpS F n P ops Q S t (f + 1) listed a w := by
  intro f
  induction f with
  | zero =>
    intro listed a w _ _ hr hy hS H
    refine ⟨fun h => (by rw [h] at hr; cases hr), fun j hj => ?_⟩
    by_cases hji : j = i
    · subst hji; exact hy.step hF hnd hi hS ⟨Or.inl hS, H⟩
    · have := ready_mono hj hji
      rw [H.1] at this
      cases this
  | succ f ih =>
    intro listed a w hcl hfree hr hy hS H
    refine ⟨fun h => (by rw [h] at hr; cases hr), fun j hj => ?_⟩
    by_cases hji : j = i
    · subst hji; exact hy.step hF hnd hi hS ⟨Or.inl hS, H⟩
    · have h1 := H.2 j (ready_mono hj hji)
      obtain ⟨hjun, oj, hoj, hall⟩ := mem_ready.1 hj
      have hiun := (mem_ready.1 hr).1
      have hiun' : listed.getD i false = false := by
        rcases Nat.lt_or_ge i listed.size with h' | h'
        · simp [h'] at hiun ⊢; exact hiun
        · simp [Array.getElem?_eq_none h']
      have hnot : ∀ e ∈ oj.after, Region.binds .any e = true → e.on ≠ i := fun e he hb heq => by
        have h1 := hall e he hb
        rw [heq, hiun'] at h1
        cases h1
      have h2 := wpOpIn_aside hF hnd hoj (hfree j oj hoj hji hjun hnot) (fun cs b => hsel i oi cs b hi) (fun cs b => hsel j oj cs b hoj) hQ hy h1
      have hcl' := hcl.ready hj
      have hiun2 : (listed.setIfInBounds j true).getD i false = false := by rw [getD_set_ne false hji]; exact hiun'
      have hnt : (listed.setIfInBounds j true).getD t false ≠ true := by
        intro ht
        unfold lateB at hlate
        rw [Bool.or_eq_true] at hlate
        rcases hlate with h' | h'
        · obtain ⟨o, ho, _⟩ := hcl' t ht
          rw [ho] at h'; cases h'
        · have := hcl'.dep _ _ _ ht h'
          rw [hiun2] at this; cases this
      refine wpOpIn_mono (fun a' w' h3 => ?_) h2
      have hS' : S w' := by
        rcases h3.2.1 with h' | h'
        · exact h'
        · exfalso
          rw [Array.setIfInBounds_comm _ _ (Ne.symm hji)] at h'
          by_cases hit : i = t
          · subst hit
            unfold lateB at hlate
            rw [hi] at hlate
            simp only [Option.isNone_some, Bool.false_or] at hlate
            have hr' : i ∈ Region.ready .any ops (listed.setIfInBounds j true) := ready_mono hr (Ne.symm hji)
            have hcl2 := hcl'.ready hr'
            obtain ⟨o, ho, hall2⟩ := hcl2 i h'
            have := (mem_ready.1 hr').2
            obtain ⟨o2, ho2, hall3⟩ := this
            cases hsz : ops.size with
            | zero => rw [hsz] at hlate; simp [depOn] at hlate
            | succ q =>
              rw [hsz] at hlate
              unfold depOn at hlate
              rw [ho2] at hlate
              simp only [] at hlate
              obtain ⟨e, he, hb⟩ := any_mem hlate
              rw [Bool.and_eq_true, Bool.or_eq_true] at hb
              have hl := hall3 e he hb.1
              rcases hb.2 with h4 | h4
              · rw [beq_iff_eq] at h4; rw [h4, hiun2] at hl; cases hl
              · have := hcl'.dep _ _ _ hl h4
                rw [hiun2] at this; cases this
          · rw [getD_set_ne false hit] at h'
            exact hnt h'
      refine ⟨Or.inl hS', ih (listed.setIfInBounds j true) a' w' hcl' (fun k ok hk hki hun hno => hfree k ok hk hki ?_ hno) (ready_mono hr (Ne.symm hji)) h3.1 hS' ?_⟩
      · by_cases hjk : j = k
        · subst hjk; exact hjun
        · rw [getD_set_ne true hjk] at hun; exact hun
      · rw [Array.setIfInBounds_comm _ _ hji]
        exact h3.2.2
def allPlain (ops : Array Oper) : Bool := ops.all notDefer
theorem allPlain_spec (h : allPlain ops = true) : ∀ (j : Nat) (o : Oper), ops[j]? = some o → notDefer o = true := by
  intro j o hj
  unfold allPlain at h
  rw [Array.all_eq_true] at h
  obtain ⟨hlt, he⟩ := Array.getElem?_eq_some_iff.1 hj
  rw [← he]
  exact h j hlt
theorem wpS_take {t : Nat} (hF : ∀ f, F.fn f) (hnd : allPlain ops = true) {i : Nat} {oi : Oper} {v : Value} {f : Nat} {listed : Array Bool} {a : Act} {w : World} (hi : ops[i]? = some oi)
    (hs : Region.noSelect ops = true) (hf : Region.free .any ops listed i = true) (hr : (Region.ready .any ops listed).contains i = true) (hc : closedB ops listed = true) (hl : lateB ops t i = true) (hQ : ∀ c a w, Q (.panic c) (a.put oi.dst v) w → Q (.panic c) a w)
    (hy : YieldsS P ops S oi v a) (hS : S w) (h : wpS F n P ops Q S t f (listed.setIfInBounds i true) (a.put oi.dst v) w) : wpS F n P ops Q S t (f + 1) listed a w :=
  wpS_first hF (allPlain_spec hnd) hi (Region.noSelect_spec hs) hQ hl f listed a w (closedB_spec hc) (Region.free_spec hi hf) (by simpa using hr) hy hS h
theorem wpS_done {t : Nat} {listed : Array Bool} {a : Act} {w : World} (hr : Region.ready .any ops listed = []) (h : Q .normal a w) : ∀ f, wpS F n P ops Q S t f listed a w
  | 0 => ⟨hr, h⟩
  | _ + 1 => ⟨fun _ => h, by rw [hr]; simp⟩
/-- Just one may come up. -/
theorem wpS_one {t : Nat} {i : Nat} {o : Oper} {f : Nat} {listed : Array Bool} {a : Act} {w : World} (hr : Region.ready .any ops listed = [i]) (ho : ops[i]? = some o) (hw : Region.wanted o (yielded ops a.tmps) = true)
    (h : ∀ K : Act → World → Prop, (∀ a' w', (S w' ∨ (listed.setIfInBounds i true).getD t false = true) → wpS F n P ops Q S t f (listed.setIfInBounds i true) a' w' → K a' w') → Oper.wpIn F n P o a w K Q) : wpS F n P ops Q S t (f + 1) listed a w := by
  refine ⟨fun e => (by rw [e] at hr; cases hr), fun j hj => ?_⟩
  rw [hr] at hj
  simp at hj
  subst hj
  unfold wpOpIn
  simp only [ho, hw, if_true]
  exact h _ fun a' w' h1 h2 => ⟨h1, h2⟩
/-- Just one may come up, and its guard passes it over. -/
theorem wpS_pass {t : Nat} (hF : ∀ f, F.fn f) {i : Nat} {o : Oper} {f : Nat} {listed : Array Bool} {a : Act} {w : World} (hr : Region.ready .any ops listed = [i]) (ho : ops[i]? = some o) (hw : Region.wanted o (yielded ops a.tmps) = false) (hS : S w)
    (h : wpS F n P ops Q S t f (listed.setIfInBounds i true) (a.put o.dst undef) w) : wpS F n P ops Q S t (f + 1) listed a w := by
  refine ⟨fun e => (by rw [e] at hr; cases hr), fun j hj => ?_⟩
  rw [hr] at hj
  simp at hj
  subst hj
  unfold wpOpIn
  simp only [ho, hw, Bool.false_eq_true, if_false]
  exact ⟨fun f _ => hF f, Or.inl hS, h⟩
end
end Go.Proofs.Qxb6609292a
