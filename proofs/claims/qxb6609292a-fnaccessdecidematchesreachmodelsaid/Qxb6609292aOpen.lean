/-
  For seat b6609292a: the row's arguments, opened: slices of structs as rows of cells.
-/
import Derived.Test.Qxb6609292aData
import Derived.ProofKit
import Derived.ChangeOld
import Derived.Below
set_option linter.unusedVariables false
namespace Go.Proofs.Qxb6609292a
open Go.ChangeShapes Go.WideShapes Go.ChangeAt Go.RowKit
open Go.ChangeMaps (open_string shut_string)

theorem Try.cells72 : Try.prog.cellsOf 72 = 3 := by kernel_rfl
theorem Try.cells9 : Try.prog.cellsOf 9 = 1 := by kernel_rfl
theorem Try.cells65 : Try.prog.cellsOf 65 = 4 := by kernel_rfl
theorem Try.cells63 : Try.prog.cellsOf 63 = 1 := by kernel_rfl
theorem Try.cells74 : Try.prog.cellsOf 74 = 2 := by kernel_rfl
theorem Try.cells3 : Try.prog.cellsOf 3 = 1 := by kernel_rfl
theorem Try.cells76 : Try.prog.cellsOf 76 = 2 := by kernel_rfl
theorem Try.cells26 : Try.prog.cellsOf 26 = 1 := by kernel_rfl
theorem Try.cells78 : Try.prog.cellsOf 78 = 5 := by kernel_rfl

section
variable {H : Type} {enc : TypeId × Value → H} {W : World} {spare : Nat → Bool} {held : Bool}
theorem cells_at {a : Addr} {n : Nat} {cs : List Value} (h : W.cells? 0 a n = some cs) : cs.length = n ∧ ∀ j u, cs[j]? = some u → W.cell? (a.add j) = some u := by
  obtain ⟨_, h2, h3⟩ := World.cells?_some h
  refine ⟨h2, fun j u hj => ?_⟩
  have hl := (List.getElem?_eq_some_iff.1 hj).1
  have := h3 j (by omega)
  rw [this, hj]
theorem spot_none {a : Addr} {v : Value} (h : W.cell? a = some v) : a.spot = none := by
  unfold World.cell? at h
  split at h
  · split at h
    · cases h
    · rename_i hs; simpa using hs
  · cases h
theorem openRows {α : Type} (row : α → List Value) (Pd : α → Prop) {t e c : Nat} (ht : Try.prog.underlying t = some (.slice e)) (hc : Try.prog.cellsOf e = c) (hc0 : 0 < c)
    (hel : ∀ n cs' y, DataW.trod enc Try.prog W 0 spare held n e cs' = some y → cs'.length = c → ∃ x : α, row x = cs' ∧ Pd x) {fuel : Nat} {v : Value} {X : DataW H × List MemPlace} (h : DataW.trod enc Try.prog W 0 spare held fuel t [v] = some X) :
    ∃ l : List α, RowsAt W v c (l.map row) ∧ ∀ x ∈ l, Pd x := by
  rcases DataW.trod_slice ht h with ⟨h0, _⟩ | ⟨a, len, cap, elems, rest, n, _, hv, _, _, hl, _, hlen, hi, _⟩
  · have : v = .slice none 0 0 := by simpa using h0
    subst this
    exact ⟨[], ⟨none, 0, rfl, Nat.le_refl _, fun hn => absurd rfl hn⟩, by simp⟩
  · have : v = .slice (some a) len cap := by simpa using hv
    subst this
    have step : ∀ k, k ≤ len → ∃ l : List α, l.length = k ∧ (∀ x ∈ l, Pd x) ∧ ∀ i x, l[i]? = some x → ∀ j u, (row x)[j]? = some u → W.cell? (a.add (i * c + j)) = some u := by
      intro k
      induction k with
      | zero => intro _; exact ⟨[], rfl, by simp, by simp⟩
      | succ k ih =>
        intro hk
        obtain ⟨l, h1, h2, h3⟩ := ih (by omega)
        have hik := hi k (by omega)
        rw [List.getElem?_eq_getElem (by omega), hc] at hik
        obtain ⟨cs', hcs, htr⟩ := Option.bind_eq_some_iff.1 hik
        obtain ⟨hln, hcell⟩ := cells_at hcs
        obtain ⟨x, hx, hp⟩ := hel n cs' _ htr hln
        refine ⟨l ++ [x], by simp [h1], ?_, ?_⟩
        · intro y hy
          rcases List.mem_append.1 hy with hy | hy
          · exact h2 y hy
          · simp at hy; rw [hy]; exact hp
        · intro i y hy j u hj
          by_cases hik' : i < k
          · rw [List.getElem?_append_left (by omega)] at hy
            exact h3 i y hy j u hj
          · have hlt := (List.getElem?_eq_some_iff.1 hy).1
            simp [h1] at hlt
            have : i = k := by omega
            subst this
            rw [List.getElem?_append_right (by omega), h1, Nat.sub_self] at hy
            simp at hy
            subst hy
            rw [hx] at hj
            have := hcell j u hj
            rw [Addr.add_add] at this
            exact this
    obtain ⟨l, h1, h2, h3⟩ := step len (Nat.le_refl _)
    refine ⟨l, ⟨some a, cap, by rw [List.length_map, h1], by rw [List.length_map, h1]; exact hl, fun hn => ?_⟩, h2⟩
    have hsp : a.spot = none := by
      cases l with
      | nil => exact absurd rfl hn
      | cons x r =>
        have hik := hi 0 (by simp at h1; omega)
        rw [List.getElem?_eq_getElem (by simp at h1; omega), hc] at hik
        obtain ⟨cs', hcs, htr⟩ := Option.bind_eq_some_iff.1 hik
        obtain ⟨hln, hcell⟩ := cells_at hcs
        obtain ⟨u, hu⟩ : ∃ u, cs'[0]? = some u := ⟨_, List.getElem?_eq_getElem (by omega)⟩
        have := spot_none (hcell 0 u hu)
        simpa [Addr.add] using this
    obtain ⟨b, o, sp⟩ := a
    simp at hsp
    subst hsp
    refine ⟨b, o, rfl, fun i x hx j u hj => ?_⟩
    rw [List.getElem?_map] at hx
    cases hy : l[i]? with
    | none => rw [hy] at hx; cases hx
    | some y =>
      rw [hy] at hx
      cases hx
      have := h3 i y hy j u hj
      rw [Addr.add_lit, ← Nat.add_assoc] at this
      exact this
theorem openStrs {fuel : Nat} {v : Value} {X : DataW H × List MemPlace} (h : DataW.trod enc Try.prog W 0 spare held fuel 26 [v] = some X) : ∃ l, StrsAt W v l :=
  openRows strRow okStr Try.underlying26 Try.cells9 (by decide) (fun n cs' y hy _ => by obtain ⟨s, rfl, _, hs⟩ := DataW.trod_string Try.underlying9 hy; exact ⟨s, rfl, hs⟩) h
theorem five {cs : List Value} (h : cs.length = 5) : ∃ a b c d e, cs = [a, b, c, d, e] := by
  match cs, h with
  | [a, b, c, d, e], _ => exact ⟨a, b, c, d, e, rfl⟩
theorem four {cs : List Value} (h : cs.length = 4) : ∃ a b c d, cs = [a, b, c, d] := by
  match cs, h with
  | [a, b, c, d], _ => exact ⟨a, b, c, d, rfl⟩
theorem three {cs : List Value} (h : cs.length = 3) : ∃ a b c, cs = [a, b, c] := by
  match cs, h with
  | [a, b, c], _ => exact ⟨a, b, c, rfl⟩
theorem two {cs : List Value} (h : cs.length = 2) : ∃ a b, cs = [a, b] := by
  match cs, h with
  | [a, b], _ => exact ⟨a, b, rfl⟩
theorem str_of {n : Nat} {v : Value} {xs : List (DataW H × List MemPlace)} {i : Nat} (h : DataW.trod enc Try.prog W 0 spare held n 9 [v] = xs[i]?) (hi : i < xs.length) : ∃ s, v = .string s ∧ okStr s := by
  rw [List.getElem?_eq_getElem hi] at h
  obtain ⟨s, h1, _, hs⟩ := DataW.trod_string Try.underlying9 h
  exact ⟨s, by simpa using h1, hs⟩
theorem openOrgs {fuel : Nat} {v : Value} {X : DataW H × List MemPlace} (h : DataW.trod enc Try.prog W 0 spare held fuel 22 [v] = some X) : ∃ l, OrgsAt W v l :=
  openRows Org.row Org.ok Try.underlying22 Try.cells72 (by decide) (fun n cs' y hy hl => by
    obtain ⟨a, b, c, rfl⟩ := three hl
    obtain ⟨xs, k, _, _, _, hxl, hf⟩ := DataW.trod_struct Try.underlying72 hy
    have h0 : DataW.trod enc Try.prog W 0 spare held k 9 (([a, b, c].drop 0).take (Try.prog.cellsOf 9)) = xs[0]? := hf 0 _ rfl
    have h1 : DataW.trod enc Try.prog W 0 spare held k 9 (([a, b, c].drop 1).take (Try.prog.cellsOf 9)) = xs[1]? := hf 1 _ rfl
    have h2 : DataW.trod enc Try.prog W 0 spare held k 9 (([a, b, c].drop 2).take (Try.prog.cellsOf 9)) = xs[2]? := hf 2 _ rfl
    rw [Try.cells9] at h0 h1 h2
    obtain ⟨s0, rfl, k0⟩ := str_of (i := 0) h0 (by rw [hxl]; decide)
    obtain ⟨s1, rfl, k1⟩ := str_of (i := 1) h1 (by rw [hxl]; decide)
    obtain ⟨s2, rfl, k2⟩ := str_of (i := 2) h2 (by rw [hxl]; decide)
    exact ⟨⟨s0, s1, s2⟩, rfl, k0, k1, k2⟩) h
theorem openGrants {fuel : Nat} {v : Value} {X : DataW H × List MemPlace} (h : DataW.trod enc Try.prog W 0 spare held fuel 63 [v] = some X) : ∃ l, GrantsAt W v l :=
  openRows Grant.row (fun g => okStr g.name ∧ wf64 g.scope) Try.underlying63 Try.cells74 (by decide) (fun n cs' y hy hl => by
    obtain ⟨a, b, rfl⟩ := two hl
    obtain ⟨xs, k, _, _, _, hxl, hf⟩ := DataW.trod_struct Try.underlying74 hy
    have h0 : DataW.trod enc Try.prog W 0 spare held k 9 (([a, b].drop 0).take (Try.prog.cellsOf 9)) = xs[0]? := hf 0 _ rfl
    have h1 : DataW.trod enc Try.prog W 0 spare held k 3 (([a, b].drop 1).take (Try.prog.cellsOf 3)) = xs[1]? := hf 1 _ rfl
    rw [Try.cells9] at h0
    rw [Try.cells3] at h1
    obtain ⟨s0, rfl, k0⟩ := str_of (i := 0) h0 (by rw [hxl]; decide)
    have h1' : DataW.trod enc Try.prog W 0 spare held k 3 [b] = xs[1]? := h1
    rw [List.getElem?_eq_getElem (by rw [hxl]; decide)] at h1'
    obtain ⟨z, hz, _, hw⟩ := DataW.trod_int Try.underlying3 h1'
    have hb : b = .int .i64 z := by simpa using hz
    subst hb
    simp [Lit.wf, IntKind.min, IntKind.max, IntKind.signed, IntKind.bits] at hw
    exact ⟨⟨s0, z⟩, rfl, k0, (show wf64 z from ⟨by omega, by omega⟩)⟩) h
theorem openRoles {fuel : Nat} {v : Value} {X : DataW H × List MemPlace} (h : DataW.trod enc Try.prog W 0 spare held fuel 23 [v] = some X) : ∃ l, RolesAt W v l :=
  openRows Role.row (Role.ok W) Try.underlying23 Try.cells65 (by decide) (fun n cs' y hy hl => by
    obtain ⟨a, b, c, d, rfl⟩ := four hl
    obtain ⟨xs, k, _, _, _, hxl, hf⟩ := DataW.trod_struct Try.underlying65 hy
    have h0 : DataW.trod enc Try.prog W 0 spare held k 9 (([a, b, c, d].drop 0).take (Try.prog.cellsOf 9)) = xs[0]? := hf 0 _ rfl
    have h1 : DataW.trod enc Try.prog W 0 spare held k 9 (([a, b, c, d].drop 1).take (Try.prog.cellsOf 9)) = xs[1]? := hf 1 _ rfl
    have h2 : DataW.trod enc Try.prog W 0 spare held k 9 (([a, b, c, d].drop 2).take (Try.prog.cellsOf 9)) = xs[2]? := hf 2 _ rfl
    have h3 : DataW.trod enc Try.prog W 0 spare held k 63 (([a, b, c, d].drop 3).take (Try.prog.cellsOf 63)) = xs[3]? := hf 3 _ rfl
    rw [Try.cells9] at h0 h1 h2
    rw [Try.cells63] at h3
    obtain ⟨s0, rfl, k0⟩ := str_of (i := 0) h0 (by rw [hxl]; decide)
    obtain ⟨s1, rfl, k1⟩ := str_of (i := 1) h1 (by rw [hxl]; decide)
    obtain ⟨s2, rfl, k2⟩ := str_of (i := 2) h2 (by rw [hxl]; decide)
    have h3' : DataW.trod enc Try.prog W 0 spare held k 63 [d] = xs[3]? := h3
    rw [List.getElem?_eq_getElem (by rw [hxl]; decide)] at h3'
    obtain ⟨gs, hgs⟩ := openGrants h3'
    exact ⟨⟨s0, s1, s2, d, gs⟩, rfl, k0, k1, k2, hgs⟩) h
theorem openUsers {fuel : Nat} {v : Value} {X : DataW H × List MemPlace} (h : DataW.trod enc Try.prog W 0 spare held fuel 24 [v] = some X) : ∃ l, UsersAt W v l :=
  openRows User.row (User.ok W) Try.underlying24 Try.cells76 (by decide) (fun n cs' y hy hl => by
    obtain ⟨a, b, rfl⟩ := two hl
    obtain ⟨xs, k, _, _, _, hxl, hf⟩ := DataW.trod_struct Try.underlying76 hy
    have h0 : DataW.trod enc Try.prog W 0 spare held k 9 (([a, b].drop 0).take (Try.prog.cellsOf 9)) = xs[0]? := hf 0 _ rfl
    have h1 : DataW.trod enc Try.prog W 0 spare held k 26 (([a, b].drop 1).take (Try.prog.cellsOf 26)) = xs[1]? := hf 1 _ rfl
    rw [Try.cells9] at h0
    rw [Try.cells26] at h1
    obtain ⟨s0, rfl, k0⟩ := str_of (i := 0) h0 (by rw [hxl]; decide)
    have h1' : DataW.trod enc Try.prog W 0 spare held k 26 [b] = xs[1]? := h1
    rw [List.getElem?_eq_getElem (by rw [hxl]; decide)] at h1'
    obtain ⟨gs, hgs⟩ := openStrs h1'
    exact ⟨⟨s0, b, gs⟩, rfl, k0, hgs⟩) h
theorem openShares {fuel : Nat} {v : Value} {X : DataW H × List MemPlace} (h : DataW.trod enc Try.prog W 0 spare held fuel 25 [v] = some X) : ∃ l, SharesAt W v l :=
  openRows Share.row (Share.ok W) Try.underlying25 Try.cells78 (by decide) (fun n cs' y hy hl => by
    obtain ⟨a, b, c, d, e, rfl⟩ := five hl
    obtain ⟨xs, k, _, _, _, hxl, hf⟩ := DataW.trod_struct Try.underlying78 hy
    have h0 : DataW.trod enc Try.prog W 0 spare held k 9 (([a, b, c, d, e].drop 0).take (Try.prog.cellsOf 9)) = xs[0]? := hf 0 _ rfl
    have h1 : DataW.trod enc Try.prog W 0 spare held k 9 (([a, b, c, d, e].drop 1).take (Try.prog.cellsOf 9)) = xs[1]? := hf 1 _ rfl
    have h2 : DataW.trod enc Try.prog W 0 spare held k 9 (([a, b, c, d, e].drop 2).take (Try.prog.cellsOf 9)) = xs[2]? := hf 2 _ rfl
    have h3 : DataW.trod enc Try.prog W 0 spare held k 26 (([a, b, c, d, e].drop 3).take (Try.prog.cellsOf 26)) = xs[3]? := hf 3 _ rfl
    have h4 : DataW.trod enc Try.prog W 0 spare held k 9 (([a, b, c, d, e].drop 4).take (Try.prog.cellsOf 9)) = xs[4]? := hf 4 _ rfl
    rw [Try.cells9] at h0 h1 h2 h4
    rw [Try.cells26] at h3
    obtain ⟨s0, rfl, k0⟩ := str_of (i := 0) h0 (by rw [hxl]; decide)
    obtain ⟨s1, rfl, k1⟩ := str_of (i := 1) h1 (by rw [hxl]; decide)
    obtain ⟨s2, rfl, k2⟩ := str_of (i := 2) h2 (by rw [hxl]; decide)
    obtain ⟨s4, rfl, k4⟩ := str_of (i := 4) h4 (by rw [hxl]; decide)
    have h3' : DataW.trod enc Try.prog W 0 spare held k 26 [d] = xs[3]? := h3
    rw [List.getElem?_eq_getElem (by rw [hxl]; decide)] at h3'
    obtain ⟨gs, hgs⟩ := openStrs h3'
    exact ⟨⟨s0, s1, s2, d, gs, s4⟩, rfl, k0, k1, k2, k4, hgs⟩) h
end
end Go.Proofs.Qxb6609292a
