/-
  THE WALK of the law FnAccessDecideMatchesReachModel for seat b6609292a.
-/
import Derived.Test.Qxb6609292aMdC
import Derived.Test.Qxb6609292aLawH
import Derived.Test.Qxb6609292aBytes5
set_option linter.unusedVariables false
set_option linter.unusedSimpArgs false
namespace Go.Proofs.Qxb6609292a
open Go.RowKit Go.Maps

theorem dec_four {os : List Org} {rs rl : List Role} {us : List User} {ss sl : List Share} {an : List ByteArray} {role perm owner org : ByteArray} {b : Int} {g : ByteArray} {sc : Int} {sh st : ByteArray} {k0 : Nat} {r0 : Role} (HO : DecR os rl sl an role perm owner b g sc sh st) (hrc : rl.map Role.core = rs.map Role.core) (hsc : sl.map Share.core = ss.map Share.core)
    (hv : Valid os rs us ss) (hnd : ∀ r ∈ rs, (r.grants.map Grant.name).Nodup) (hk0 : rs[k0]? = some r0) (hid0 : r0.id = role) (horg0 : r0.org = org) :
    (owner = E0 → b = 5 ∧ g = E0 ∧ sc = 0 ∧ sh = E0 ∧ st = E0) ∧ (owner ≠ E0 → idxTo (os.map Org.id) (os.map Org.id).length owner = none → b = 4 ∧ g = E0 ∧ sc = 0 ∧ sh = E0 ∧ st = E0) ∧
    (owner ≠ E0 → (∀ g ∈ r0.grants, g.name ≠ perm) → b = 4 ∧ g = E0 ∧ sc = 0 ∧ sh = E0 ∧ st = E0) ∧
    (owner ≠ E0 → ∀ p, idxTo (os.map Org.id) (os.map Org.id).length owner = some p → ∀ g1 ∈ r0.grants, g1.name = perm → ∃ own, OwnOk (parL os) (posD (os.map Org.id) org) g1.scope own ∧ AnsR os ss an perm org p g1.scope own b g sc sh st) := by
  obtain ⟨kl, rl', hkl, hrl'⟩ := role_found hrc hk0 hid0
  have hcore := role_core hrc hv.rid.1 hk0 hid0 hkl hrl'
  have hin : org ∈ os.map Org.id := by rw [← horg0]; exact (hv.rorg r0 (List.mem_of_getElem? hk0)).1
  refine ⟨fun h => dec_empty HO h, fun h h' => dec_noorg HO h h', fun h hno => ?_, fun h p hp g1 hg1 hn1 => ?_⟩
  · refine dec_ungranted HO h (fun k r h1 h2 => ?_)
    rw [hkl] at h1; cases h1
    rw [hrl'] at h2; cases h2
    rw [hcore.2]; exact permTo_none hno _
  · have hpt : permTo rl'.grants rl'.grants.length perm = some g1.scope := by
      rw [hcore.2, ← hn1]
      exact permTo_mem' (hnd r0 (List.mem_of_getElem? hk0)) hg1
    exact dec_ans HO hsc h hkl hrl' hpt (hcore.1.trans horg0) hin hp
set_option maxRecDepth 1000000 in
set_option maxHeartbeats 6400000 in
theorem law3_h {x10 x11 x12 x13 x14 x15 x16 x17 x18 x19 x20 x21 x22 x23 x24 x25 x26 x27 x28 x29 x30 x31 x32 x33 x34 x35 x36 x37 x38 x39 x40 x41 x42 x43 x44 x45 x46 x47 x48 x49 x50 x51 x52 x53 x54 x55 x56 x57 x58 x59 x60 x61 x62 x63 x64 x65 x66 x67 x68 x69 x70 x71 x72 x73 x74 x75 x76 x77 x78 x79 x80 x81 x82 x83 x84 x85 x86 x87 x88 x89 x90 x91 x92 x93 x94 x95 x96 x97 x98 : Value} (os : List Org) (rs : List Role) (us : List User) (ss : List Share) (an : List ByteArray) (ao ar au ash aa : Option Addr) (co cr cu csh ca : Nat) (user role org perm owner : ByteArray) (w wd : World)
    (ho : OrgsAt w (.slice ao os.length co) os) (hr : RolesAt w (.slice ar rs.length cr) rs) (hu : UsersAt w (.slice au us.length cu) us) (hs : SharesAt w (.slice ash ss.length csh) ss) (ha : StrsAt w (.slice aa an.length ca) an) (hSm : Small os rs us ss an) (hv : Hid (Valid os rs us ss)) (hex : Ext w wd) (hnew : NewOk os an)
    (hacc : Hid (∃ (k : Nat) (r : Role), rs[k]? = some r ∧ r.id = role ∧ r.org = org)) (hnd : Hid (∀ r ∈ rs, (r.grants.map Grant.name).Nodup)) (hor : okStr role) (hop : okStr perm) (hoo : okStr owner) (hoorg : okStr org) :
    Code.wp Try.prog (dropSeq 6 (Try.f3.body.getD .skip)) (bodyPost Try.prog Try.f3 (LawPost w)) ⟨#[.slice ao os.length co, .slice ar rs.length cr, .slice au us.length cu, .slice ash ss.length csh, .slice aa an.length ca, .string user, .string role, .string org, .string perm, .string owner, x10, x11, x12, x13, x14, x15, x16, x17, x18, x19, x20, x21, x22, x23, x24, x25, x26, x27, x28, x29, x30, x31, x32, x33, x34, x35, x36, x37, x38, x39, x40, x41, x42, x43, x44, x45, x46, x47, x48, x49, x50, x51, x52, x53, x54, x55, x56, x57, x58, x59, x60, x61, x62, x63, x64, x65, x66, x67, x68, x69, x70, x71, x72, x73, x74, x75, x76, x77, x78, x79, x80, x81, x82, x83, x84, x85, x86, x87, x88, x89, x90, x91, x92, x93, x94, x95, x96, x97, x98], []⟩ wd := by
  conv => arg 2; whnf
  have htw := toWorld_any (.slice ao os.length co) (.slice ar rs.length cr) (.slice au us.length cu) (.slice ash ss.length csh) (.slice aa an.length ca) os rs us ss an wd (ho.ext hex) (hr.ext hex) (hu.ext hex) (hs.ext hex) (ha.ext hex) hSm
  obtain ⟨k0, r0, hk0, hid0, horg0⟩ := hacc.out
  have HC0 : Hid (rs[k0]? = some r0 ∧ r0.id = role ∧ r0.org = org) := ⟨hk0, hid0, horg0⟩
  have fin : ∀ W, Ext w W → LawPost w (.returned (.bool true)) W := fun W h => ⟨rfl, h⟩
  clear hk0 hid0 horg0
  repeat (first
    | (go_at_call 11; refine htw.mono ?_; rintro e w1 ⟨vO, vR, vU, vS, vA, rs', us', ss', tw, rfl, hx1⟩; have hnm := hnew.at hSm hv.out tw)
    | (go_at_call 10; refine hnm.mono ?_; rintro e w2 ⟨m, rl, sl, rfl, hM, hrc', hsc', hx2⟩; have HC : Hid (rl.map Role.core = rs.map Role.core ∧ sl.map Share.core = ss.map Share.core) := ⟨hrc'.trans tw.rc, hsc'.trans tw.sc⟩; clear hrc' hsc'; have he2 := (hex.trans hx1).trans hx2)
    | (go_at_call 12; refine (newAccess_any m user role org w2).mono ?_; rintro e w3 ⟨rfl, hw3⟩; have hx3 : Ext w2 w3 := (by rw [← hw3]; exact Ext.alloc _ _); have hB3 : Blk w3 w2.heap.size [.pointer (some ⟨m, 0, none⟩), .string user, .string role, .string org] := (by rw [← hw3]; exact Blk.alloc w2 _ 123); have he3 := he2.trans hx3; have hdec := accDecide_any w2.heap.size m os rl sl an user role org perm owner w3 (hM.ext hx3) hB3 hor hop hoo hSm.no (by rw [core_len HC.out.1]; exact hSm.nr) (by rw [core_len HC.out.2]; exact hSm.ns) (nsp_core HC.out.2 hSm.nsp) hv.out.ends (rorg_core HC.out.1 hv.out.rorg); clear hw3)
    | (go_at_call 13; refine hdec.mono ?_; rintro e w4 ⟨b, g, sc, sh, st, HO, rfl, hx4⟩; have he4 := he3.trans hx4; have h4 := dec_four HO.out HC.out.1 HC.out.2 hv.out hnd.out HC0.out.1 HC0.out.2.1 HC0.out.2.2; have hmd := modelDecide_any (.slice ao os.length co) (.slice ar rs.length cr) (.slice ash ss.length csh) (.slice aa an.length ca) os rs us ss an role perm owner org b g sc sh st k0 r0 w4 (ho.ext he4) (hr.ext he4) (hs.ext he4) (ha.ext he4) hSm hv HC0 hoo hoorg h4.1 h4.2.1 h4.2.2.1 h4.2.2.2; clear h4)
    | (go_at_call 14; refine hmd.mono ?_; rintro e w5 ⟨rfl, hx5⟩; have he5 := he4.trans hx5)
    | (go_ret; exact fin _ he5)
    | go_values | go_skip | go_guarded | go_step | go_upon | (simp only [Int.not_lt, Int.not_le] at *; go_simp))
set_option maxRecDepth 1000000 in
set_option maxHeartbeats 6400000 in
theorem law3_any (vo vr vu vs va : Value) (os : List Org) (rs : List Role) (us : List User) (ss : List Share) (an : List ByteArray) (user role org perm owner : ByteArray) (w : World)
    (ho : OrgsAt w vo os) (hr : RolesAt w vr rs) (hu : UsersAt w vu us) (hs : SharesAt w vs ss) (ha : StrsAt w va an) (hor : okStr role) (hop : okStr perm) (hoo : okStr owner) (hoorg : okStr org) (hnew : NewOk os an) :
    Calls Try.prog 3 #[vo, vr, vu, vs, va, .string user, .string role, .string org, .string perm, .string owner] w (LawPost w) := by
  obtain ⟨ao, co, rfl, hco⟩ := ho.shape
  obtain ⟨ar, cr, rfl, hcr⟩ := hr.shape
  obtain ⟨au, cu, rfl, hcu⟩ := hu.shape
  obtain ⟨ash, csh, rfl, hcs⟩ := hs.shape
  obtain ⟨aa, ca, rfl, hca⟩ := ha.shape
  have c5 := bytes5_any (.slice ao os.length co) (.slice ar rs.length cr) (.slice au us.length cu) (.slice ash ss.length csh) (.slice aa an.length ca) os rs us ss an user role org perm owner w ho hr hu hs ha
  have hfd : ∀ (k : Int) (a1 a2 a3 a4 a5 a6 a7 : Value) (W : World), (Instr.field 32 (.agg #[.int .i64 k, a1, a2, a3, a4, a5, a6, a7]) 0).run Try.prog W = .ok (.int .i64 k) W := fun _ _ _ _ _ _ _ _ _ => by kernel_rfl
  have fin : ∀ W, Ext w W → LawPost w (.returned (.bool true)) W := fun W h => ⟨rfl, h⟩
  go_enter Try.func3, Try.ntmps3
  repeat (first
    | (go_at_call 5; refine c5.mono ?_; rintro e w' ⟨b, hb, rfl, rfl⟩; cases b; rotate_left; (have hSm := hb rfl; have c6 := fits_any (.slice ao os.length co) (.slice ar rs.length cr) (.slice au us.length cu) (.slice ash ss.length csh) (.slice aa an.length ca) os rs us ss an user role org perm owner ⟨#[]⟩ w ho hr hu hs ha hSm.no hSm.nr hSm.nu hSm.ns hSm.na hSm.ng hSm.nur hSm.nsp; clear hb))
    | (go_at_call 6; refine c6.mono ?_; rintro e w1 ⟨b, rfl, hx1⟩; cases b; rotate_left; (have c7 := distinct_any (.slice ar rs.length cr) rs w1 (hr.ext hx1) hSm.nr hSm.ng))
    | (go_at_call 7; refine c7.mono ?_; rintro e w2 ⟨b, hb, rfl, hx2⟩; have he2 := hx1.trans hx2; cases b; rotate_left; (have hnd : Hid (∀ r ∈ rs, (r.grants.map Grant.name).Nodup) := hb rfl; have c8 := wantOf_any (.slice ao os.length co) (.slice ar rs.length cr) (.slice au us.length cu) (.slice ash ss.length csh) os rs us ss w2 (ho.ext he2) (hr.ext he2) (hu.ext he2) (hs.ext he2) hSm.no hSm.nr hSm.nu hSm.ns hSm.ng hSm.nur; clear hb))
    | (go_at_call 8; refine c8.mono ?_; rintro e w3 ⟨k, a1, a2, a3, a4, a5, a6, a7, hk, rfl, hx3⟩; have he3 := he2.trans hx3; rcases ne_test k 0 with ⟨ek, hk0⟩ | ⟨ek, hk0⟩; (have hv : Hid (Valid os rs us ss) := hk hk0.out; obtain rfl := hk0.out; have c9 := accessOK_any (.slice au us.length cu) (.slice ar rs.length cr) us rs user role org w3 (hu.ext he3) (hr.ext he3) hSm.nu hSm.nr hSm.nur))
    | (go_at_call 9; refine c9.mono ?_; rintro e w4 ⟨b, hb, rfl, rfl⟩; cases b; rotate_left; (have hacc : Hid (∃ (k : Nat) (r : Role), rs[k]? = some r ∧ r.id = role ∧ r.org = org) := hb rfl; clear hb))
    | (exact law3_h os rs us ss an ao ar au ash aa co cr cu csh ca user role org perm owner w w3 ho hr hu hs ha hSm hv he3 hnew hacc hnd hor hop hoo hoorg)
    | (go_ret; exact fin _ (by first | exact he3 | exact he2 | exact hx1 | exact Ext.refl _))
    | go_values | go_skip | go_guarded | go_step | go_upon | (simp only [Int.not_lt, Int.not_le] at *; go_simp))

end Go.Proofs.Qxb6609292a
