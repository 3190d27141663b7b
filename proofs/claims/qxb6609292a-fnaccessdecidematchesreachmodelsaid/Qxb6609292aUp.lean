/-
  Plain laws and WALKS for seat b6609292a: properAncestor, reachesByGrant, covers, shareBrings.
-/
import Derived.Test.Qxb6609292aIndex2
set_option linter.unusedVariables false
set_option linter.unusedSimpArgs false
namespace Go.Proofs.Qxb6609292a
open Go.RowKit Go.Maps

/-- a lies strictly above b. -/
def Above (P : List Int) (a : Int) (b : Int) : Prop := ∃ m, up P (m + 1) b = a
theorem up_succ (P : List Int) : ∀ (m : Nat) (z : Int), up P (m + 1) z = par P (up P m z)
  | 0, z => rfl
  | m + 1, z => up_succ P m (par P z)
theorem above_iff {P : List Int} {a b : Int} : Above P a b ↔ a = par P b ∨ Above P a (par P b) := by
  constructor
  · rintro ⟨m, hm⟩
    cases m with
    | zero => exact Or.inl hm.symm
    | succ m => exact Or.inr ⟨m, hm⟩
  · rintro (h | ⟨m, hm⟩)
    · exact ⟨0, h.symm⟩
    · exact ⟨m + 1, hm⟩
theorem above_neg {P : List Int} {a b : Int} (hb : b < 0) (ha : 0 ≤ a) : ¬ Above P a b := by
  rintro ⟨m, hm⟩
  have := up_neg P (m + 1) b hb
  omega

def lvl (rank : Nat → Nat) (z : Int) : Nat := if z < 0 then 0 else rank z.toNat + 1
theorem lvl_neg (rank : Nat → Nat) : lvl rank (-1) = 0 := rfl
theorem lvl_nat (rank : Nat → Nat) (q : Nat) : lvl rank (q : Int) = rank q + 1 := by unfold lvl; rw [if_neg (by omega)]; rfl
theorem intOf_i (z : Int) : intOf (.int .i64 z) = z := rfl

set_option maxRecDepth 100000 in
set_option maxHeartbeats 800000 in
theorem properAncestor_any (P : List Int) (rank : Nat → Nat) (g0 : Nat) (a b : Nat) (w : World) (hP : Blk w g0 (P.map iI)) (hR : Rng P) (hrk : Ranked P rank) (hb : b < P.length) :
    Calls Try.prog 20 #[.slice (some ⟨g0, 0, none⟩) P.length P.length, .int .i64 a, .int .i64 b] w fun e w' => ∃ q : Bool, (q = true ↔ Above P a b) ∧ e = .returned (.bool q) ∧ w = w' := by
  obtain ⟨z, hz⟩ := get_at P b hb
  have c0 := cell_iI hP hz
  have hz' := hR b z hz
  have HA : Hid (Above P a b ↔ ((a : Int) = z ∨ Above P a z)) := by show _ ↔ _; rw [above_iff, par_at hz]
  clear hz
  go_enter Try.func20, Try.ntmps20
  go_wp2_with fail
  go_loopw [7] (fun pv wr => ∃ z : Int, pv = .int .i64 z ∧ (z = -1 ∨ ∃ p : Nat, z = p ∧ p < P.length) ∧ Hid (Above P a b ↔ ((a : Int) = z ∨ Above P a z)) ∧ w = wr) (fun p _ => lvl rank (intOf p))
  case atStart => exact ⟨z, rfl, hz', HA, rfl⟩
  case round =>
    clear c0 hz' HA
    obtain ⟨z, rfl, hz, HA, rfl⟩ := hrel
    rcases hz with rfl | ⟨p, rfl, hp⟩
    · have hno : ¬ Above P a b := by
        rw [HA.out]; rintro (h | h)
        · omega
        · exact above_neg (by decide) (by omega) h
      go_wp2
      go_ret
      exact ⟨false, by simp [hno], rfl, rfl⟩
    · obtain ⟨z, hz⟩ := get_at P p hp
      have c0 := cell_iI hP hz
      have hz' := hR p z hz
      have hrk' : ∀ q : Nat, z = q → rank q < rank p := fun q hq => hrk p q (by rw [hz, hq])
      rcases int_test (p : Int) (a : Int) with ⟨e1, e2⟩ | ⟨e1, e2⟩
      · clear hz
        go_wp2_with fail
        go_ret
        exact ⟨true, by simp; rw [HA.out]; exact Or.inl e2.out.symm, rfl, rfl⟩
      · have HA2 : Hid (Above P a b ↔ ((a : Int) = z ∨ Above P a z)) := by
          show _ ↔ _
          rw [HA.out, above_iff, par_at hz]
          constructor
          · rintro (h | h)
            · exact absurd h.symm e2
            · exact h
          · exact Or.inr
        clear hz
        go_wp2_with fail
        go_roundw
        case rel => exact ⟨z, rfl, hz', HA2, by trivial⟩
        case measure =>
          rcases hz' with rfl | ⟨q, rfl, hq⟩
          · rw [intOf_i, intOf_i, lvl_neg, lvl_nat]; omega
          · have := hrk' q rfl
            rw [intOf_i, intOf_i, lvl_nat, lvl_nat]; omega

/-- The grant's reach. -/
def Reaches (P : List Int) (top : Nat) (scope : Int) (x : Nat) : Prop := x = top ∨ (scope = 1 ∧ Above P top x)

set_option maxRecDepth 100000 in
set_option maxHeartbeats 800000 in
theorem reachesByGrant_any (P : List Int) (rank : Nat → Nat) (g0 : Nat) (top x : Nat) (scope : Int) (w : World) (hP : Blk w g0 (P.map iI)) (hR : Rng P) (hrk : Ranked P rank) (hb : x < P.length) :
    Calls Try.prog 46 #[.slice (some ⟨g0, 0, none⟩) P.length P.length, .int .i64 top, .int .i64 scope, .int .i64 x] w fun e w' => ∃ q : Bool, (q = true ↔ Reaches P top scope x) ∧ e = .returned (.bool q) ∧ w = w' := by
  go_enter Try.func46, Try.ntmps46
  rcases int_test (x : Int) (top : Int) with ⟨e1, e2⟩ | ⟨e1, e2⟩
  · go_wp2_with fail
    go_ret
    exact ⟨true, by simp; left; exact Int.ofNat.inj e2.out, rfl, rfl⟩
  · rcases int_test scope 1 with ⟨e3, e4⟩ | ⟨e3, e4⟩
    · go_wp2_with (go_at_call 20; refine (properAncestor_any P rank g0 top x w hP hR hrk hb).mono ?_; rintro e w' ⟨q, hq, rfl, rfl⟩)
      go_ret
      exact ⟨q, by unfold Reaches; rw [hq]; constructor; · exact fun h => Or.inr ⟨e4.out, h⟩
                   · rintro (h | h)
                     · exact absurd (by rw [h]) e2
                     · exact h.2, rfl, rfl⟩
    · go_wp2_with fail
      go_ret
      exact ⟨false, by
        simp
        rintro (h | h)
        · exact e2 (by rw [h])
        · exact e4 h.1, rfl, rfl⟩

set_option maxRecDepth 100000 in
set_option maxHeartbeats 800000 in
theorem covers_any (v : Value) (l : List ByteArray) (s : ByteArray) (w : World) (h : StrsAt w v l) (hn : l.length ≤ 1048576) :
    Calls Try.prog 47 #[v, .string s] w fun e w' => ∃ b : Bool, (b = true ↔ (l = [] ∨ s ∈ l)) ∧ e = .returned (.bool b) ∧ w = w' := by
  obtain ⟨ao, cap, hv, hcap⟩ := h.shape
  rw [hv] at h ⊢
  clear hv
  go_enter Try.func47, Try.ntmps47
  by_cases hl : l.length = 0
  · have e1 : ((l.length : Int) == 0) = true := by simp [hl]
    have hl' := List.length_eq_zero_iff.1 hl
    clear hl
    go_wp2_with fail
    go_ret
    exact ⟨true, by simp [hl'], rfl, rfl⟩
  · have e1 : ((l.length : Int) == 0) = false := by simp; exact fun e => hl (by rw [e]; rfl)
    have hl' : l ≠ [] := fun e => hl (by rw [e]; rfl)
    go_wp2_with (go_at_call 21; refine (inList_any _ l _ _ h hn).mono ?_; rintro e w' ⟨b2, hb2, rfl, rfl⟩)
    go_ret
    exact ⟨b2, by rw [hb2]; simp [hl'], rfl, rfl⟩
end Go.Proofs.Qxb6609292a
