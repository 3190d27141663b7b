/-
  For seat b6609292a: what the two rows share: ten arguments opened, and read again behind the call.
-/
import Derived.Test.Qxb6609292aOpen
import Derived.Test.Qxb6609292aRows
import Derived.Carry
import Derived.ProofKit
import Derived.ChangeOld
import Derived.Below
set_option linter.unusedVariables false
namespace Go.Proofs.Qxb6609292a
open Go.ChangeShapes Go.WideShapes Go.ChangeAt Go.RowKit
open Go.ChangeMaps (open_string shut_string)

theorem own : ownKnob Try.prog.godebug = none := by kernel_rfl
theorem laidOut : laidOutB Try.prog = true := by kernel_rfl

theorem trodAll_below {H : Type} {enc : TypeId × Value → H} {P : Program} (hl : laidOutB P = true) {W W' : World} (hb : Below W.heap.size W W') : ∀ {ts : List TypeId} {vs : List Value} {ds : List (DataW H)} {ps : List MemPlace},
    (∀ t ∈ ts, P.readableRec t = true ∧ t < P.types.size) → (∀ x ∈ ps, x.block < W.heap.size) → DataW.TrodAll enc P W 0 (fun _ => true) true ts vs ds ps → DataW.TrodAll enc P W' 0 (fun b => decide (b < W.heap.size)) true ts vs ds ps
  | [], vs, ds, ps, _, _, h => by cases vs <;> cases ds <;> simp [DataW.TrodAll] at h ⊢; exact h
  | t :: ts, vs, ds, ps, ht, hp, h => by
    obtain ⟨v, vs', d, ds', p, q, rfl, rfl, rfl, h1, h2⟩ := trodAll_cons h
    exact ⟨p, q, (Below.trod hl (ht t (by simp)).1 (ht t (by simp)).2 h1 hb (fun x hx => hp x (by simp [hx]))), (trodAll_below hl hb (fun u hu => ht u (by simp [hu])) (fun x hx => hp x (by simp [hx])) h2), rfl⟩
set_option maxRecDepth 100000 in
theorem slice_cells {H : Type} {enc : TypeId × Value → H} {W : World} {base : Nat} {t e : TypeId} {v : Value} {d : DataW H} {p : List MemPlace} (ht : Try.prog.underlying t = some (.slice e)) (hv : Value.okWide Try.prog W .any base t v) (h : DataW.Trod enc Try.prog W 0 (fun _ => true) true t v d p) :
    ∃ fuel X, DataW.trod enc Try.prog W 0 (fun _ => true) true fuel t [v] = some X := by
  obtain ⟨a, l, c, rfl⟩ := okWide_slice ht hv
  obtain ⟨fuel, hf⟩ := h
  exact ⟨fuel, _, hf⟩
theorem readable : ∀ t ∈ [22, 23, 24, 25, 26, 9, 9, 9, 9, 9], Try.prog.readableRec t = true ∧ t < Try.prog.types.size := by
  have h : ([22, 23, 24, 25, 26, 9].all fun t => Try.prog.readableRec t && decide (t < Try.prog.types.size)) = true := by kernel_rfl
  intro t ht
  have := List.all_eq_true.1 h t (by simp at ht ⊢; omega)
  simpa using this
set_option maxRecDepth 100000 in
/-- The arguments: five slices and five strings. -/
theorem opened {H : Type} {enc : TypeId × Value → H} {W : World} {base : Nat} {args : Array Value} {ds : List (DataW H)} {p : List MemPlace} (hA : DataW.TrodAll enc Try.prog W 0 (fun _ => true) true [22, 23, 24, 25, 26, 9, 9, 9, 9, 9] args.toList ds p)
    (hval : ∀ (j : Nat) t v, (#[22, 23, 24, 25, 26, 9, 9, 9, 9, 9] : Array TypeId)[j]? = some t → args[j]? = some v → Value.okWide Try.prog W .any base t v) :
    ∃ vo vr vu vs va user role org perm owner, args = #[vo, vr, vu, vs, va, .string user, .string role, .string org, .string perm, .string owner] ∧ (∃ d0 d1 d2 d3 d4 d5 d6 d7 d8 d9, ds = [d0, d1, d2, d3, d4, d5, d6, d7, d8, d9]) ∧
      (∃ os, OrgsAt W vo os) ∧ (∃ rs, RolesAt W vr rs) ∧ (∃ us, UsersAt W vu us) ∧ (∃ ss, SharesAt W vs ss) ∧ (∃ an, StrsAt W va an) ∧ okStr user ∧ okStr role ∧ okStr org ∧ okStr perm ∧ okStr owner := by
  obtain ⟨v0, vs0, d0, ds0, p0, q0, e0, rfl, rfl, h0, r0⟩ := trodAll_cons hA
  obtain ⟨v1, vs1, d1, ds1, p1, q1, rfl, rfl, rfl, h1, r1⟩ := trodAll_cons r0
  obtain ⟨v2, vs2, d2, ds2, p2, q2, rfl, rfl, rfl, h2, r2⟩ := trodAll_cons r1
  obtain ⟨v3, vs3, d3, ds3, p3, q3, rfl, rfl, rfl, h3, r3⟩ := trodAll_cons r2
  obtain ⟨v4, vs4, d4, ds4, p4, q4, rfl, rfl, rfl, h4, r4⟩ := trodAll_cons r3
  obtain ⟨v5, vs5, d5, ds5, p5, q5, rfl, rfl, rfl, h5, r5⟩ := trodAll_cons r4
  obtain ⟨v6, vs6, d6, ds6, p6, q6, rfl, rfl, rfl, h6, r6⟩ := trodAll_cons r5
  obtain ⟨v7, vs7, d7, ds7, p7, q7, rfl, rfl, rfl, h7, r7⟩ := trodAll_cons r6
  obtain ⟨v8, vs8, d8, ds8, p8, q8, rfl, rfl, rfl, h8, r8⟩ := trodAll_cons r7
  obtain ⟨v9, vs9, d9, ds9, p9, q9, rfl, rfl, rfl, h9, r9⟩ := trodAll_cons r8
  obtain ⟨rfl, rfl, rfl⟩ := trodAll_nil r9
  obtain rfl : args = #[v0, v1, v2, v3, v4, v5, v6, v7, v8, v9] := by cases args; simp_all
  obtain ⟨f0, X0, k0⟩ := slice_cells Try.underlying22 (hval 0 22 v0 rfl rfl) h0
  obtain ⟨f1, X1, k1⟩ := slice_cells Try.underlying23 (hval 1 23 v1 rfl rfl) h1
  obtain ⟨f2, X2, k2⟩ := slice_cells Try.underlying24 (hval 2 24 v2 rfl rfl) h2
  obtain ⟨f3, X3, k3⟩ := slice_cells Try.underlying25 (hval 3 25 v3 rfl rfl) h3
  obtain ⟨f4, X4, k4⟩ := slice_cells Try.underlying26 (hval 4 26 v4 rfl rfl) h4
  obtain ⟨s5, rfl, _, _, o5⟩ := open_string Try.underlying9 (hval 5 9 v5 rfl rfl) h5
  obtain ⟨s6, rfl, _, _, o6⟩ := open_string Try.underlying9 (hval 6 9 v6 rfl rfl) h6
  obtain ⟨s7, rfl, _, _, o7⟩ := open_string Try.underlying9 (hval 7 9 v7 rfl rfl) h7
  obtain ⟨s8, rfl, _, _, o8⟩ := open_string Try.underlying9 (hval 8 9 v8 rfl rfl) h8
  obtain ⟨s9, rfl, _, _, o9⟩ := open_string Try.underlying9 (hval 9 9 v9 rfl rfl) h9
  exact ⟨v0, v1, v2, v3, v4, s5, s6, s7, s8, s9, rfl, ⟨_, _, _, _, _, _, _, _, _, _, rfl⟩, openOrgs k0, openRoles k1, openUsers k2, openShares k3, openStrs k4, o5, o6, o7, o8, o9⟩
end Go.Proofs.Qxb6609292a
