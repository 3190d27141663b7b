/-
  WALKS for seat b6609292a: indexList at each type; firstInCycle's ground (laid by a script of this seat's).
-/
import Derived.Test.Qxb6609292aIndex
set_option linter.unusedVariables false
set_option linter.unusedSimpArgs false
namespace Go.Proofs.Qxb6609292a
open Go.RowKit Go.Maps


set_option maxRecDepth 100000 in
theorem listRoles_any (s : ByteArray) (v : Value) (l : List Role) (w : World) (h : RolesM w v l) (hn : l.length ≤ 1048576) (hids : Hid (IdsOk (l.map Role.id))) :
    Calls Try.prog 28 #[.string s, v, .func (.func 29) #[] #[]] w fun e w' => ∃ b, e = .returned (.tuple #[.map (some b), .nilIface]) ∧ SM w' 3 b l.length (posF (l.map Role.id) (l.map Role.id).length) ∧ Ext w w' := by
  go_enter Try.func28, Try.ntmps28
  go_wp2_with (go_at_call 55; refine (indexRoles_any _ l _ h hn hids.out).mono ?_; rintro e w1 ⟨b, rfl, hsm, he⟩)
  go_ret2
  exact ⟨b, rfl, hsm, he⟩


set_option maxRecDepth 100000 in
theorem listUsers_any (s : ByteArray) (v : Value) (l : List User) (w : World) (h : UsersAt w v l) (hn : l.length ≤ 1048576) (hids : Hid (IdsOk (l.map User.id))) :
    Calls Try.prog 30 #[.string s, v, .func (.func 31) #[] #[]] w fun e w' => ∃ b, e = .returned (.tuple #[.map (some b), .nilIface]) ∧ SM w' 3 b l.length (posF (l.map User.id) (l.map User.id).length) ∧ Ext w w' := by
  go_enter Try.func30, Try.ntmps30
  go_wp2_with (go_at_call 56; refine (indexUsers_any _ l _ h hn hids.out).mono ?_; rintro e w1 ⟨b, rfl, hsm, he⟩)
  go_ret2
  exact ⟨b, rfl, hsm, he⟩


set_option maxRecDepth 100000 in
theorem listShs_any (s : ByteArray) (v : Value) (l : List Share) (w : World) (h : SharesAt w v l) (hn : l.length ≤ 1048576) (hids : Hid (IdsOk (l.map Share.id))) :
    Calls Try.prog 32 #[.string s, v, .func (.func 33) #[] #[]] w fun e w' => ∃ b, e = .returned (.tuple #[.map (some b), .nilIface]) ∧ SM w' 3 b l.length (posF (l.map Share.id) (l.map Share.id).length) ∧ Ext w w' := by
  go_enter Try.func32, Try.ntmps32
  go_wp2_with (go_at_call 57; refine (indexShs_any _ l _ h hn hids.out).mono ?_; rintro e w1 ⟨b, rfl, hsm, he⟩)
  go_ret2
  exact ⟨b, rfl, hsm, he⟩


set_option maxRecDepth 100000 in
theorem indexRecs_any (w : World) :
    Calls Try.prog 58 #[.slice none 0 0, .func (.func 35) #[] #[]] w fun e w' => ∃ b, e = .returned (.tuple #[.map (some b), .int .i64 (-1), .int .i64 0]) ∧ Ext w w' := by
  have hmm := run_makeMap_hint 58 9 3 Try.underlying58
  go_enter Try.func58, Try.ntmps58
  go_wp2_with fail
  go_loopw [18] (fun j wr => j = .int .i64 0 ∧ w.alloc (.map #[] 0) = wr) (fun _ _ => 0)
  case atStart => exact ⟨rfl, rfl⟩
  case round =>
    obtain ⟨rfl, rfl⟩ := hrel
    go_wp2
    go_ret3
    exact ⟨_, rfl, Ext.alloc _ _⟩

set_option maxRecDepth 100000 in
theorem listRecs_any (s : ByteArray) (w : World) :
    Calls Try.prog 34 #[.string s, .slice none 0 0, .func (.func 35) #[] #[]] w fun e w' => ∃ b, e = .returned (.tuple #[.map (some b), .nilIface]) ∧ Ext w w' := by
  go_enter Try.func34, Try.ntmps34
  go_wp2_with (go_at_call 58; refine (indexRecs_any _).mono ?_; rintro e w1 ⟨b, rfl, he⟩)
  go_ret2
  exact ⟨b, rfl, he⟩

/-! ### ranks -/
/-- How many steps to the root, if there are at most f. -/
def rk (P : List Int) : Nat → Int → Nat
  | 0, _ => 0
  | f + 1, z => if z < 0 then 0 else rk P f (par P z) + 1
theorem par_neg {P : List Int} {z : Int} (h : z < 0) : par P z = -1 := by unfold par; rw [if_pos h]
theorem up_neg (P : List Int) : ∀ (m : Nat) (z : Int), z < 0 → up P m z < 0
  | 0, z, h => h
  | m + 1, z, h => by unfold up; exact up_neg P m _ (by rw [par_neg h]; decide)
theorem up_more (P : List Int) : ∀ (m f : Nat) (z : Int), up P m z < 0 → m ≤ f → up P f z < 0
  | 0, f, z, h, _ => up_neg P f z h
  | m + 1, 0, z, h, hm => by omega
  | m + 1, f + 1, z, h, hm => up_more P m f (par P z) h (by omega)
theorem rk_stable (P : List Int) : ∀ (m f : Nat) (z : Int), up P m z < 0 → m ≤ f → rk P f z = rk P m z
  | 0, 0, z, h, _ => rfl
  | 0, f + 1, z, h, _ => by
    have hz : z < 0 := h
    unfold rk; rw [if_pos hz]
  | m + 1, 0, z, h, hm => by omega
  | m + 1, f + 1, z, h, hm => by
    unfold rk
    by_cases hz : z < 0
    · rw [if_pos hz, if_pos hz]
    · rw [if_neg hz, if_neg hz, rk_stable P m f (par P z) h (by omega)]
theorem all_up (P : List Int) : ∀ n : Nat, (∀ q : Nat, q < n → Ends P q) → ∃ M, ∀ q : Nat, q < n → up P M q < 0
  | 0, _ => ⟨0, fun q h => absurd h (Nat.not_lt_zero _)⟩
  | n + 1, h => by
    obtain ⟨M, hM⟩ := all_up P n (fun q hq => h q (by omega))
    obtain ⟨m, hm⟩ := h n (by omega)
    refine ⟨M + m, fun q hq => ?_⟩
    by_cases e : q = n
    · rw [e]; exact up_more P m _ _ hm (by omega)
    · exact up_more P M _ _ (hM q (by omega)) (by omega)
theorem rk_le (P : List Int) : ∀ (f : Nat) (z : Int), rk P f z ≤ f
  | 0, z => Nat.le_refl _
  | f + 1, z => by
    have := rk_le P f (par P z)
    unfold rk
    split <;> omega
/-- Parents lie lower. -/
def Ranked (P : List Int) (rank : Nat → Nat) : Prop := ∀ i p : Nat, P[i]? = some (p : Int) → rank p < rank i
theorem ranked_of_ends {P : List Int} (h : ∀ q : Nat, q < P.length → Ends P q) : ∃ rank : Nat → Nat, Ranked P rank ∧ ∃ M, ∀ i, rank i ≤ M := by
  obtain ⟨M, hM⟩ := all_up P P.length h
  refine ⟨fun i => rk P M i, fun i p hp => ?_, M, fun i => ?_⟩
  · have hi := (List.getElem?_eq_some_iff.1 hp).1
    have h1 := rk_stable P M (M + 1) (i : Int) (hM i hi) (by omega)
    have h2 : rk P (M + 1) (i : Int) = rk P M (par P i) + 1 := by
      show (if (i : Int) < 0 then 0 else rk P M (par P i) + 1) = _
      rw [if_neg (by omega)]
    rw [par_at hp] at h2
    show rk P M p < rk P M i
    omega
  · exact rk_le P M _
end Go.Proofs.Qxb6609292a
