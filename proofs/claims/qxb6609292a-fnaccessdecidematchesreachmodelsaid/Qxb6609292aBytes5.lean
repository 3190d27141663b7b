/-
  THE WALK of zzBytes, seat b6609292a (laid by a script of this seat's).
-/
import Derived.Test.Qxb6609292aBytes5B
set_option linter.unusedVariables false
set_option linter.unusedSimpArgs false
namespace Go.Proofs.Qxb6609292a
open Go.RowKit Go.Maps

set_option maxRecDepth 1000000 in
set_option maxHeartbeats 16000000 in
theorem bytes5_any (vo vr vu vs va : Value) (os : List Org) (rs : List Role) (us : List User) (ss : List Share) (an : List ByteArray) (t1 t2 t3 t4 t5 : ByteArray) (w : World) (ho : OrgsAt w vo os) (hr : RolesAt w vr rs) (hu : UsersAt w vu us) (hs : SharesAt w vs ss) (ha : StrsAt w va an) :
    Calls Try.prog 5 #[vo, vr, vu, vs, va, .string t1, .string t2, .string t3, .string t4, .string t5] w (BytesPost os rs us ss an w) := by
  obtain ⟨ao, co, rfl, hco⟩ := ho.shape
  obtain ⟨ar, cr, rfl, hcr⟩ := hr.shape
  obtain ⟨au, cu, rfl, hcu⟩ := hu.shape
  obtain ⟨ash, csh, rfl, hcs⟩ := hs.shape
  obtain ⟨aa, ca, rfl, hca⟩ := ha.shape
  clear hco hcr hcu hcs hca
  go_enter Try.func5, Try.ntmps5
  go_wp2_with fail
  all_goals (first | (go_ret; exact ⟨false, by simp, rfl, rfl⟩) | skip)
  go_loopw [21, 22] (fun zv j wr => ∃ (k : Nat) (n : Int), zv = .int .i64 n ∧ j = .int .i64 k ∧ 0 ≤ n ∧ n ≤ 1048576 ∧ k ≤ os.length ∧ w = wr) (fun _ i _ => os.length - (intOf i).toNat)
  case atStart => exact ⟨0, _, rfl, rfl, by omega, by omega, Nat.zero_le _, rfl⟩
  case round =>
    obtain ⟨k, n, rfl, rfl, n0, n1, hk, rfl⟩ := hrel
    have hnl : os.length ≤ 1048576 := by omega
    by_cases hlt : k < os.length
    · obtain ⟨o, hoo⟩ := get_at os k hlt
      obtain ⟨bb, off, rfl, c0, c1, c2, ok⟩ := ho.at hoo
      clear hoo ok
      go_wp2_with fail
      all_goals (first | (go_ret; exact ⟨false, by simp, rfl, rfl⟩) | skip)
      go_roundw
      case rel => exact ⟨k + 1, _, rfl, by go_num, by omega, by omega, by omega, by trivial⟩
      case measure => simp [intOf]; omega
    · obtain rfl : k = os.length := by omega
      clear hk hlt
      repeat (first | (exact bytes5_b os rs us ss an t1 t2 t3 t4 t5 w _ _ _ _ _ _ _ _ _ _ ho hr hu hs ha hnl _ n0 n1) | go_values | go_skip | go_guarded | go_step | go_upon | (simp only [Int.not_lt, Int.not_le] at *; go_simp))
end Go.Proofs.Qxb6609292a
