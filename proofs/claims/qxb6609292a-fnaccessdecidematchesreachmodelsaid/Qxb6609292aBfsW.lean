/-
  WALKS for seat b6609292a: depthBelow, bfsCompare.
-/
import Derived.Test.Qxb6609292aBfsP
set_option linter.unusedVariables false
set_option linter.unusedSimpArgs false
namespace Go.Proofs.Qxb6609292a
open Go.RowKit Go.Maps

theorem up_add (P : List Int) : ∀ (a b : Nat) (z : Int), up P (a + b) z = up P b (up P a z)
  | 0, b, z => by rw [Nat.zero_add]; rfl
  | a + 1, b, z => by rw [show a + 1 + b = (a + b) + 1 by omega]; exact up_add P a b (par P z)
theorem dpt_step {P : List Int} {top u n k : Nat} (h : dpt P top u n) (hk : k < n) : ∃ (q : Nat) (z : Int), up P k (u : Int) = (q : Int) ∧ (q : Int) ≠ (top : Int) ∧ P[q]? = some z ∧ q < P.length ∧ up P (k + 1) (u : Int) = z := by
  have hneg : ∀ j, j ≤ n → up P j (u : Int) < 0 → False := fun j hj hz => by
    have e := up_add P j (n - j) (u : Int)
    rw [show j + (n - j) = n by omega, h.1] at e
    have := up_neg P (n - j) _ hz
    omega
  by_cases hz : up P k (u : Int) < 0
  · exact absurd (hneg k (by omega) hz) id
  · obtain ⟨q, hq⟩ : ∃ q : Nat, up P k (u : Int) = (q : Int) := ⟨(up P k (u : Int)).toNat, by omega⟩
    have hs := up_succ P k (u : Int)
    rw [hq] at hs
    rcases par_cases P q with e | ⟨z, hz', hp⟩
    · rw [e] at hs
      exact absurd (hneg (k + 1) (by omega) (by rw [hs]; decide)) id
    · exact ⟨q, z, hq, by rw [← hq]; exact h.2 k hk, hz', (List.getElem?_eq_some_iff.1 hz').1, by rw [hs, hp]⟩

set_option maxRecDepth 100000 in
set_option maxHeartbeats 1600000 in
theorem depthBelow_any (P : List Int) (g0 top u n : Nat) (w : World) (hP : Blk w g0 (P.map iI)) (hd : dpt P top u n) (hn : n ≤ 1048576) :
    Calls Try.prog 67 #[.slice (some ⟨g0, 0, none⟩) P.length P.length, .int .i64 top, .int .i64 u] w fun e w' => e = .returned (.int .i64 n) ∧ w = w' := by
  have HD : Hid (dpt P top u n) := hd
  clear hd
  go_enter Try.func67, Try.ntmps67
  go_wp2_with fail
  go_loopw [2, 7] (fun uv nv wr => ∃ (k : Nat) (q : Int), uv = .int .i64 q ∧ nv = .int .i64 k ∧ k ≤ n ∧ Hid (up P k (u : Int) = q) ∧ w = wr) (fun _ nv _ => n - (intOf nv).toNat)
  case atStart => exact ⟨0, u, rfl, rfl, Nat.zero_le _, rfl, rfl⟩
  case round =>
    obtain ⟨k, q0, rfl, rfl, hk, HU, rfl⟩ := hrel
    by_cases hkn : k = n
    · subst hkn
      have e : q0 = (top : Int) := by rw [← HU.out]; exact HD.out.1
      subst e
      go_wp2
      go_ret
      exact ⟨rfl, rfl⟩
    · obtain ⟨q, z, hq, hne, hz, hql, hup⟩ := dpt_step HD.out (show k < n by omega)
      have e : q0 = (q : Int) := by rw [← HU.out]; exact hq
      subst e
      have c0 := cell_iI hP hz
      have HU2 : Hid (up P (k + 1) (u : Int) = z) := hup
      have e1 : ((q : Int) != (top : Int)) = true := by simp; omega
      clear hq hz hup
      go_wp2_with fail
      go_roundw
      case rel => exact ⟨k + 1, z, rfl, by simp, by omega, HU2, by trivial⟩
      case measure => simp [intOf]; omega

set_option maxRecDepth 100000 in
set_option maxHeartbeats 3200000 in
theorem bfsCompare_any (P : List Int) (rank : Nat → Nat) (Q : List Nat) (g0 top u v : Nat) (w : World) (hP : Blk w g0 (P.map iI)) (hrk : Ranked P rank) (hQ : BOrd P top Q) (hu : u ∈ Q) (hv : v ∈ Q) (hn : P.length ≤ 1048576) :
    Calls Try.prog 48 #[.slice (some ⟨g0, 0, none⟩) P.length P.length, .int .i64 top, .int .i64 u, .int .i64 v] w fun e w' => ∃ z : Int, (z < 0 ↔ Q.idxOf u < Q.idxOf v) ∧ e = .returned (.int .i64 z) ∧ w = w' := by
  obtain ⟨a, ha⟩ := hQ.dp u hu
  obtain ⟨b, hb⟩ := hQ.dp v hv
  have ca := depthBelow_any P g0 top u a w hP ha (by have := hQ.small hu ha; omega)
  have cb := depthBelow_any P g0 top v b w hP hb (by have := hQ.small hv hb; omega)
  have da : Hid (a < b → Q.idxOf u < Q.idxOf v) := hQ.deep a b u v hu hv ha hb
  have db : Hid (b < a → Q.idxOf v < Q.idxOf u) := hQ.deep b a v u hv hu hb ha
  have HA : Hid (dpt P top u a) := ha
  have HB : Hid (dpt P top v b) := hb
  have HQ : Hid (BOrd P top Q) := hQ
  clear ha hb hQ
  have tok : Hid True := trivial
  go_enter Try.func48, Try.ntmps48
  rcases Nat.lt_trichotomy a b with hl | hl | hl
  · have e1 : ((a : Int) != (b : Int)) = true := by simp; omega
    have hz := da.out hl
    go_wp2_with (go_at_call 67; first | (clear tok; refine ca.mono ?_; rintro e w' ⟨rfl, rfl⟩) | (refine cb.mono ?_; rintro e w' ⟨rfl, rfl⟩))
    go_ret
    exact ⟨-1, by simp [hz], rfl, rfl⟩
  · subst hl
    have HU : Hid (u ∈ Q) := hu
    have HV : Hid (v ∈ Q) := hv
    clear da db hu hv
    go_wp2_with (go_at_call 67; first | (clear tok; refine ca.mono ?_; rintro e w' ⟨rfl, rfl⟩) | (refine cb.mono ?_; rintro e w' ⟨rfl, rfl⟩))
    go_loopw [2, 3] (fun uv vv wr => ∃ (u' v' n : Nat), uv = .int .i64 u' ∧ vv = .int .i64 v' ∧ Hid (u' ∈ Q ∧ v' ∈ Q ∧ dpt P top u' n ∧ dpt P top v' n) ∧ Hid (Q.idxOf u < Q.idxOf v ↔ Q.idxOf u' < Q.idxOf v') ∧ w = wr) (fun uv _ _ => rank (intOf uv).toNat)
    case atStart => exact ⟨u, v, a, rfl, rfl, ⟨HU.out, HV.out, HA.out, HB.out⟩, Iff.rfl, rfl⟩
    case round =>
      obtain ⟨u', v', n, rfl, rfl, HM, HI, rfl⟩ := hrel
      clear ca cb
      rcases ne_test (u' : Int) (v' : Int) with ⟨e1, e2⟩ | ⟨e1, e2⟩
      · have e3 : u' = v' := Int.ofNat.inj e2.out
        have hno : ¬ Q.idxOf u < Q.idxOf v := by rw [HI.out, e3]; omega
        go_wp2_with fail
        go_ret
        exact ⟨0, by simp [hno], rfl, rfl⟩
      · have hut : u' ≠ top := fun e => by
          subst e
          have h0 := dpt_top HM.out.2.2.1
          subst h0
          exact e2 (by rw [dpt_zero.1 HM.out.2.2.2])
        have hvt : v' ≠ top := fun e => by
          subst e
          have h0 := dpt_top HM.out.2.2.2
          subst h0
          exact e2 (by rw [dpt_zero.1 HM.out.2.2.1])
        obtain ⟨pu, hpu, k1⟩ := HQ.out.pa u' HM.out.1 hut
        obtain ⟨pv, hpv, k2⟩ := HQ.out.pa v' HM.out.2.1 hvt
        have c1 := cell_iI hP k1
        have c2 := cell_iI hP k2
        have l1 := (List.getElem?_eq_some_iff.1 k1).1
        have l2 := (List.getElem?_eq_some_iff.1 k2).1
        have r1 := hrk u' pu k1
        rcases int_test (pu : Int) (pv : Int) with ⟨t1, t2⟩ | ⟨t1, t2⟩
        · have e3 : pu = pv := Int.ofNat.inj t2.out
          subst e3
          rcases Nat.lt_or_ge u' v' with hl | hl
          · have hz : Q.idxOf u < Q.idxOf v := HI.out.2 (HQ.out.sib u' v' pu HM.out.1 HM.out.2.1 hut hvt hpu k1 k2 hl)
            clear k1 k2 hpu hpv hut hvt t2
            go_wp2_with fail
            go_ret
            exact ⟨-1, by simp [hz], rfl, rfl⟩
          · have hz : ¬ Q.idxOf u < Q.idxOf v := by
              rw [HI.out]
              have := HQ.out.sib v' u' pu HM.out.2.1 HM.out.1 hvt hut hpu k2 k1 (by omega)
              omega
            clear k1 k2 hpu hpv hut hvt t2
            go_wp2_with fail
            go_ret
            exact ⟨1, by simp [hz], rfl, rfl⟩
        · have hne : pu ≠ pv := fun e => t2 (by rw [e])
          have HI2 : Hid (Q.idxOf u < Q.idxOf v ↔ Q.idxOf pu < Q.idxOf pv) := by
            show _ ↔ _
            rw [HI.out]; exact HQ.out.both HM.out.1 HM.out.2.1 hut hvt hpu hpv k1 k2 hne
          have hnz : n ≠ 0 := fun e => by subst e; exact hut (dpt_zero.1 HM.out.2.2.1)
          obtain ⟨n', rfl⟩ : ∃ n', n = n' + 1 := ⟨n - 1, by omega⟩
          have HM2 : Hid (pu ∈ Q ∧ pv ∈ Q ∧ dpt P top pu n' ∧ dpt P top pv n') := ⟨hpu, hpv, (dpt_succ k1 hut).1 HM.out.2.2.1, (dpt_succ k2 hvt).1 HM.out.2.2.2⟩
          clear k1 k2 hpu hpv hut hvt t2 hne
          go_wp2_with fail
          go_roundw
          case rel => exact ⟨pu, pv, n', rfl, rfl, HM2, HI2, by trivial⟩
          case measure => simp [intOf]; exact r1
  · have e1 : ((a : Int) != (b : Int)) = true := by simp; omega
    have hz : ¬ Q.idxOf u < Q.idxOf v := by have := db.out hl; omega
    go_wp2_with (go_at_call 67; first | (clear tok; refine ca.mono ?_; rintro e w' ⟨rfl, rfl⟩) | (refine cb.mono ?_; rintro e w' ⟨rfl, rfl⟩))
    go_ret
    exact ⟨1, by simp [hz], rfl, rfl⟩
end Go.Proofs.Qxb6609292a
