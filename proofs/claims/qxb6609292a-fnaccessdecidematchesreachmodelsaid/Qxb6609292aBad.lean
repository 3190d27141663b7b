/-
  WALKS for seat b6609292a: firstBadScope, where no scope is bad; the closures of checkReferences that are called where all is well.
-/
import Derived.Test.Qxb6609292aWorldC
import Derived.Maps.RangeWalk
import Derived.Laws.IdiomRangeMap
set_option linter.unusedVariables false
set_option linter.unusedSimpArgs false
namespace Go.Proofs.Qxb6609292a
open Go.RowKit Go.Maps

theorem key9_inv {key kl : _} (h : keyOf Try.prog 9 key = some kl) : ∃ s : ByteArray, key = .string s ∧ kl = Qxb6609292a.key s ∧ okStr s := by
  cases key <;> simp [keyOf, Try.underlying9, mapKey] at h
  obtain ⟨h1, h2⟩ := h
  exact ⟨_, rfl, h2.symm, h1⟩
theorem Try.und53 : Try.prog.underlying 53 = some (.int .i64) := by kernel_rfl
/-- What an entry of a map that is known holds. -/
theorem SM.entry {D : DataW Unit} {f : ByteArray → Option Value}
    (h2 : ∀ s, okStr s → match f s with | none => Maps.has D (key s) = false | some v => ∃ d, plainElem (H := Unit) Try.prog 53 v = some (d, []) ∧ ∀ z, D.atKey (key s) z = d)
    {s : ByteArray} {c : Int} {y : DataW Unit × List MemPlace} (hs : okStr s) (hv : plainElem Try.prog 53 (.int .i64 c) = some y) (hat : ∀ zd, D.atKey (key s) zd = y.1) : f s = some (.int .i64 c) := by
  have h3 := h2 s hs
  cases hf : f s with
  | none =>
    rw [hf] at h3
    have e1 := hat (.lit (.int .i64 0))
    have e2 := hat (.lit (.int .i64 1))
    rw [Maps.atKey_of_not_has h3] at e1 e2
    rw [← e1] at e2
    simp at e2
  | some v =>
    rw [hf] at h3
    obtain ⟨d, hd, hz⟩ := h3
    have e1 := hat (.lit (.int .i64 0))
    rw [hz] at e1
    obtain ⟨a, ha, hya, _⟩ := plainElem_int_inv Try.und53 hv
    have hp := plainElem_places hv
    have : y = (d, []) := by
      cases y with
      | mk y1 y2 => simp at hp e1; rw [hp, e1]
    rw [this] at hv
    rw [plain_inj hd hv]

def BadPost (w : World) : Ending → World → Prop := fun e w' => (∃ s, e = .returned (.tuple #[.string s, .bool false])) ∧ Ext w w'
set_option maxRecDepth 100000 in
set_option maxHeartbeats 3200000 in
theorem firstBad_any (mv : Value) (gs : List Grant) (w : World) (h : MapAt w mv gs) (hsc : ∀ g ∈ gs, g.scope = 0 ∨ g.scope = 1) :
    Calls Try.prog 63 #[mv] w (BadPost w) := by
  have hf : ∀ (k : Nat) s v, permF gs k s = some v → v = .int .i64 0 ∨ v = .int .i64 1 := by
    intro k s v hv
    unfold permF at hv
    cases hp : permTo gs k s with
    | none => rw [hp] at hv; cases hv
    | some z =>
      rw [hp] at hv
      have hz : z = 0 ∨ z = 1 := by
        clear hv
        induction k with
        | zero => simp [permTo] at hp
        | succ m ih =>
          unfold permTo at hp
          split at hp
          · cases hg : gs[m]? with
            | none => rw [hg] at hp; cases hp
            | some g => rw [hg] at hp; have := hsc g (List.mem_of_getElem? hg); cases hp; exact this
          · exact ih hp
      cases hv
      rcases hz with rfl | rfl
      · exact Or.inl rfl
      · exact Or.inr rfl
  rcases h with ⟨rfl, rfl⟩ | ⟨b, rfl, D, hD, h2⟩
  · clear hf hsc
    have hr := run_range_nilMap (P := Try.prog) w 95 9 53 Try.underlying95
    have hn := fun ty => run_next_nilMap (P := Try.prog) w ty 0 0 #[]
    have he := Ext.alloc w (.mapIter none 0 #[] 0)
    unfold BadPost
    go_enter Try.func63, Try.ntmps63
    go_wp2_with fail
    go_loopw [4, 5] (fun x y wr => x = .string ⟨#[]⟩ ∧ y = .bool false ∧ w.alloc (.mapIter none 0 #[] 0) = wr) (fun _ _ wr => 0)
    case atStart => exact ⟨rfl, rfl, rfl⟩
    case round =>
      obtain ⟨rfl, rfl, rfl⟩ := hrel
      go_wp2_with fail
      go_ret2
      exact ⟨⟨_, rfl⟩, he⟩
  · have hf' := hf gs.length
    clear hf
    unfold BadPost
    go_enter Try.func63, Try.ntmps63
    go_wp2_with (first
      | (at_range; refine wpList_range_own _ rfl _ 95 rfl 9 53 law9 Try.underlying95 _ b _ _ rfl hD ?_; intro w0 hrg0 hg0 hs0)
      | go_in)
    have he0 : Ext w w0 := grown_ext (Ext.refl _) hg0 (by simp)
    go_frame
    go_loopw [4, 5] (fun x y wr => x = .string ⟨#[]⟩ ∧ y = .bool false ∧ ∃ (left : Lit → Bool) (cnt : Nat), wr.ranges Try.prog 9 (plainElem Try.prog 53) b w.heap.size gs.length D left cnt ∧ Ext w wr) (fun _ _ wr => wr.rangeLeft b w.heap.size)
    case atStart => exact ⟨rfl, rfl, _, _, hrg0, he0⟩
    case round =>
      obtain ⟨rfl, rfl, left, cnt, hrg, hgw⟩ := hrel
      go_wp2_with (first
        | (at_next; refine wpList_next_ranges _ rfl _ rfl 9 law9 (plainElem Try.prog 53) Value.string (Value.int .i64) (fun key kl hk => by obtain ⟨s, rfl, _⟩ := key9_inv hk; exact ⟨s, rfl⟩) (fun v y hv => by obtain ⟨a, ha, _⟩ := plainElem_int_inv Try.und53 hv; exact ⟨a, ha⟩) b w.heap.size _ D _ _ rfl hrg ?_ ?_)
        | go_in)
      · intro _ _
        go_wp2
        go_ret2
        exact ⟨⟨_, rfl⟩, hgw⟩
      · intro x c kl y1 y2 w1 cnt1 hkey hlx hv hat hrg1 hlt hg1 hs1 hen
        obtain ⟨s, hse, hkl, hok⟩ := key9_inv hkey
        cases hse
        subst hkl
        have hc := hf' x _ (SM.entry h2 hok hv hat)
        have he1 := ext_st hgw hg1 (Nat.le_refl _)
        have hc' : c = 0 ∨ c = 1 := by rcases hc with h | h <;> cases h <;> simp
        clear hc hat hv hkey
        rcases hc' with rfl | rfl
        · go_wp2_with fail
          go_roundw
          case rel => exact ⟨rfl, rfl, _, cnt1, hrg1, he1⟩
          case measure => rw [hrg1.left_eq, hrg.left_eq]; omega
        · go_wp2_with fail
          go_roundw
          case rel => exact ⟨rfl, rfl, _, cnt1, hrg1, he1⟩
          case measure => rw [hrg1.left_eq, hrg.left_eq]; omega
end Go.Proofs.Qxb6609292a
