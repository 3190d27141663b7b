/-
  WALKS for seat b6609292a: inList, roleIndex, grantOf, accessOK, firstIDProblem.
-/
import Derived.Test.Qxb6609292aMem
set_option linter.unusedVariables false
namespace Go.Proofs.Qxb6609292a
open Go.RowKit Go.Maps

theorem str_test (a b : ByteArray) : ((a.toList == b.toList) = true ∧ Hid (a = b)) ∨ ((a.toList == b.toList) = false ∧ a ≠ b) := by
  rw [ByteArray.toList_eq, ByteArray.toList_eq]
  by_cases h : a = b
  · left; exact ⟨by rw [h]; simp, h⟩
  · right
    refine ⟨?_, h⟩
    simp only [beq_eq_false_iff_ne]
    intro e
    have : a.data = b.data := by simpa using e
    cases a; cases b; simp at this; rw [this] at h; exact h rfl

/-! ### inList -/
theorem mem_take_succ {α : Type} {l : List α} {k : Nat} {x o : α} (h : l[k]? = some o) : x ∈ l.take (k + 1) ↔ x ∈ l.take k ∨ x = o := by
  have hk : k < l.length := (List.getElem?_eq_some_iff.1 h).1
  have e : l[k] = o := (List.getElem?_eq_some_iff.1 h).2
  rw [List.take_succ_eq_append_getElem hk, List.mem_append, List.mem_singleton, e]

set_option maxHeartbeats 800000 in
theorem inList_any (v : Value) (l : List ByteArray) (s : ByteArray) (w : World) (h : StrsAt w v l) (hn : l.length ≤ 1048576) :
    Calls Try.prog 21 #[v, .string s] w fun e w' => ∃ b : Bool, (b = true ↔ s ∈ l) ∧ e = .returned (.bool b) ∧ w = w' := by
  obtain ⟨ao, cap, rfl, hcap⟩ := h.shape
  go_enter Try.func21, Try.ntmps21
  go_wp2_with fail
  go_loopw [8] (fun j wr => ∃ k : Nat, j = .int .i64 k ∧ k ≤ l.length ∧ s ∉ l.take k ∧ w = wr) (fun i _ => l.length - (intOf i).toNat)
  case atStart => exact ⟨0, rfl, Nat.zero_le _, by simp, rfl⟩
  case round =>
    obtain ⟨k, rfl, hk, hnot, rfl⟩ := hrel
    by_cases hlt : k < l.length
    · obtain ⟨o, ho⟩ := get_at l k hlt
      obtain ⟨b, off, rfl, c0, ok⟩ := h.at ho
      have hmt := fun x => mem_take_succ (x := x) ho
      have HM := List.mem_of_getElem? ho
      clear ho
      rcases str_test o s with ⟨e, e'⟩ | ⟨e, e'⟩
      · go_wp2_with fail
        go_ret
        exact ⟨true, by simp [← e'.out, HM], rfl, rfl⟩
      · have hne : s ∉ l.take (k + 1) := by rw [hmt]; rintro (h1 | h1); exact hnot h1; exact e' h1.symm
        clear hmt HM
        go_wp2_with fail
        go_roundw
        case rel => exact ⟨k + 1, by go_num, by omega, hne, by trivial⟩
        case measure => simp [intOf]; omega
    · obtain rfl : k = l.length := by omega
      rw [List.take_length] at hnot
      go_wp2
      go_ret
      exact ⟨false, by simp [hnot], rfl, rfl⟩

/-! ### roleIndex -/
theorem all_take_succ {α : Type} {l : List α} {k : Nat} {o : α} {P : α → Prop} (h : l[k]? = some o) (ha : ∀ x ∈ l.take k, P x) (ho : P o) : ∀ x ∈ l.take (k + 1), P x := by
  intro x hx
  rcases (mem_take_succ h).1 hx with h1 | h1
  · exact ha x h1
  · rw [h1]; exact ho

set_option maxHeartbeats 800000 in
theorem roleIndex_any (v : Value) (l : List Role) (s : ByteArray) (w : World) (h : RolesAt w v l) (hn : l.length ≤ 1048576) :
    Calls Try.prog 17 #[v, .string s] w fun e w' => ∃ z : Int, ((z = -1 ∧ ∀ r ∈ l, r.id ≠ s) ∨ ∃ (k : Nat) (r : Role), z = k ∧ l[k]? = some r ∧ r.id = s) ∧ e = .returned (.int .i64 z) ∧ w = w' := by
  obtain ⟨ao, cap, rfl, hcap⟩ := h.shape
  go_enter Try.func17, Try.ntmps17
  go_wp2_with fail
  go_loopw [8] (fun j wr => ∃ k : Nat, j = .int .i64 k ∧ k ≤ l.length ∧ (∀ r ∈ l.take k, r.id ≠ s) ∧ w = wr) (fun i _ => l.length - (intOf i).toNat)
  case atStart => exact ⟨0, rfl, Nat.zero_le _, by simp, rfl⟩
  case round =>
    obtain ⟨k, rfl, hk, hnot, rfl⟩ := hrel
    by_cases hlt : k < l.length
    · obtain ⟨o, ho⟩ := get_at l k hlt
      obtain ⟨b, off, rfl, c0, c1, c2, c3, ok⟩ := h.at ho
      have HO : Hid (l[k]? = some o) := ho
      clear ho
      rcases str_test o.id s with ⟨e, e'⟩ | ⟨e, e'⟩
      · go_wp2_with fail
        go_ret
        exact ⟨k, Or.inr ⟨k, o, rfl, HO.out, e'.out⟩, rfl, rfl⟩
      · have hne := all_take_succ HO.out hnot e'
        clear hnot
        go_wp2_with fail
        go_roundw
        case rel => exact ⟨k + 1, by go_num, by omega, hne, by trivial⟩
        case measure => simp [intOf]; omega
    · obtain rfl : k = l.length := by omega
      rw [List.take_length] at hnot
      go_wp2
      go_ret
      exact ⟨-1, Or.inl ⟨rfl, hnot⟩, rfl, rfl⟩

/-! ### grantOf -/
set_option maxHeartbeats 800000 in
theorem grantOf_any (r : Role) (a b c : ByteArray) (s : ByteArray) (w : World) (h : GrantsAt w r.gv r.grants) (hn : r.grants.length ≤ 1048576) :
    Calls Try.prog 18 #[.agg #[.string a, .string b, .string c, r.gv], .string s] w fun e w' =>
      ((∃ g ∈ r.grants, g.name = s ∧ e = .returned (.tuple #[.int .i64 g.scope, .bool true])) ∨ ((∀ g ∈ r.grants, g.name ≠ s) ∧ e = .returned (.tuple #[.int .i64 0, .bool false]))) ∧ Ext w w' := by
  obtain ⟨ao, cap, hgv, hcap⟩ := h.shape
  rw [hgv] at h ⊢
  clear hgv
  go_enter Try.func18, Try.ntmps18
  go_wp2_with fail
  go_loopw [10] (fun j wr => ∃ k : Nat, j = .int .i64 k ∧ k ≤ r.grants.length ∧ (∀ g ∈ r.grants.take k, g.name ≠ s) ∧ w.alloc (.cells #[.string a, .string b, .string c, .slice ao r.grants.length cap] 65) = wr) (fun i _ => r.grants.length - (intOf i).toNat)
  case atStart => exact ⟨0, rfl, Nat.zero_le _, by simp, rfl⟩
  case round =>
    obtain ⟨k, rfl, hk, hnot, rfl⟩ := hrel
    have he := Ext.alloc w (.cells #[.string a, .string b, .string c, .slice ao r.grants.length cap] 65)
    by_cases hlt : k < r.grants.length
    · obtain ⟨o, ho⟩ := get_at r.grants k hlt
      obtain ⟨bb, off, rfl, c0, c1, ok⟩ := (h.ext he).at ho
      have HO : Hid (r.grants[k]? = some o) := ho
      clear ho
      rcases str_test o.name s with ⟨e, e'⟩ | ⟨e, e'⟩
      · go_wp2_with fail
        go_ret2
        exact ⟨Or.inl ⟨o, List.mem_of_getElem? HO.out, e'.out, rfl⟩, he⟩
      · have hne := all_take_succ HO.out hnot e'
        clear hnot
        go_wp2_with fail
        go_roundw
        case rel => exact ⟨k + 1, by go_num, by omega, hne, by trivial⟩
        case measure => simp [intOf]; omega
    · obtain rfl : k = r.grants.length := by omega
      rw [List.take_length] at hnot
      go_wp2
      go_ret2
      exact ⟨Or.inr ⟨hnot, rfl⟩, he⟩

/-! ### accessOK -/
set_option maxRecDepth 100000 in
set_option maxHeartbeats 800000 in
theorem accessOK_any (vu vr : Value) (us : List User) (rs : List Role) (user role org : ByteArray) (w : World) (hu : UsersAt w vu us) (hr : RolesAt w vr rs) (hn : us.length ≤ 1048576) (hn2 : rs.length ≤ 1048576) (hn3 : ∀ u ∈ us, u.roles.length ≤ 1048576) :
    Calls Try.prog 9 #[vu, vr, .string user, .string role, .string org] w fun e w' => ∃ b : Bool, (b = true → ∃ (k : Nat) (r : Role), rs[k]? = some r ∧ r.id = role ∧ r.org = org) ∧ e = .returned (.bool b) ∧ w = w' := by
  obtain ⟨ao, cap, rfl, hcap⟩ := hu.shape
  obtain ⟨ao2, cap2, rfl, hcap2⟩ := hr.shape
  go_enter Try.func9, Try.ntmps9
  go_wp2_with (go_at_call 17; refine (roleIndex_any _ rs _ _ hr hn2).mono ?_; rintro e w' ⟨z, ⟨rfl, hz⟩ | ⟨k, r, rfl, hk, hid⟩, rfl, rfl⟩; rotate_left; (obtain ⟨b, off, rfl, c0, c1, c2, c3, ok⟩ := hr.at hk; have hkl := (List.getElem?_eq_some_iff.1 hk).1; have HK : Hid (rs[k]? = some r) := hk; have HI : Hid (r.id = role) := hid; clear hk hid c0 c1 c3 ok hr; rcases str_test r.org org with ⟨e1, e2⟩ | ⟨e1, e2⟩))
  · go_loopw [29] (fun j wr => ∃ q : Nat, j = .int .i64 q ∧ q ≤ us.length ∧ w = wr) (fun i _ => us.length - (intOf i).toNat)
    case atStart => exact ⟨0, rfl, Nat.zero_le _, rfl⟩
    case round =>
      obtain ⟨q, rfl, hq, rfl⟩ := hrel
      by_cases hlt : q < us.length
      · obtain ⟨o, ho⟩ := get_at us q hlt
        obtain ⟨ub, uoff, rfl, c0, c1, ok⟩ := hu.at ho
        have hl3 := hn3 o (List.mem_of_getElem? ho)
        clear ho
        rcases str_test o.id user with ⟨e3, e4⟩ | ⟨e3, e4⟩
        · go_wp2_with (go_at_call 21; refine (inList_any _ o.roles _ _ ok.2 hl3).mono ?_; rintro e w' ⟨b2, hb2, rfl, rfl⟩; cases b2)
          · go_roundw
            case rel => exact ⟨q + 1, by go_num, by omega, by trivial⟩
            case measure => simp [intOf]; omega
          · go_ret
            exact ⟨true, fun _ => ⟨k, r, HK.out, HI.out, e2.out⟩, rfl, rfl⟩
        · go_wp2_with fail
          go_roundw
          case rel => exact ⟨q + 1, by go_num, by omega, by trivial⟩
          case measure => simp [intOf]; omega
      · obtain rfl : q = us.length := by omega
        go_wp2
        go_ret
        exact ⟨false, by simp, rfl, rfl⟩
  all_goals go_ret
  all_goals exact ⟨false, by simp, rfl, rfl⟩
end Go.Proofs.Qxb6609292a
