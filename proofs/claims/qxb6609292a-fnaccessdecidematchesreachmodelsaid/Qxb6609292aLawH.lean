/-
  THE WALK of the law FnAccessDecideRefusesWithoutOwnGrant for seat b6609292a: from the guards to Decide.
-/
import Derived.Test.Qxb6609292aLawT
import Derived.Test.Qxb6609292aDecA
import Derived.Test.Qxb6609292aWorld
import Derived.Test.Qxb6609292aWalkC
import Derived.Test.Qxb6609292aWant
import Derived.Test.Qxb6609292aFitsM
import Derived.Test.Qxb6609292aBytes15
import Derived.Test.Qxb6609292aNewA
set_option linter.unusedVariables false
set_option linter.unusedSimpArgs false
namespace Go.Proofs.Qxb6609292a
open Go.RowKit Go.Maps

theorem ids_coreU {us ul : List User} (h : ul.map User.core = us.map User.core) : ul.map User.id = us.map User.id := by
  have := congrArg (List.map (fun c => c.1)) h
  simpa [List.map_map, Function.comp_def, User.core] using this
theorem ids_coreS {ss sl : List Share} (h : sl.map Share.core = ss.map Share.core) : sl.map Share.id = ss.map Share.id := by
  have := congrArg (List.map (fun c => c.1)) h
  simpa [List.map_map, Function.comp_def, Share.core] using this
theorem rorg_core {os : List Org} {rs rl : List Role} (h : rl.map Role.core = rs.map Role.core) (hv : ∀ r ∈ rs, r.org ∈ os.map Org.id ∧ ∀ g ∈ r.grants, g.scope = 0 ∨ g.scope = 1) : ∀ r ∈ rl, r.org ∈ os.map Org.id ∧ ∀ g ∈ r.grants, g.scope = 0 ∨ g.scope = 1 := by
  intro r hr
  obtain ⟨y, hy, e⟩ := core_memP h hr
  have e1 : y.org = r.org := congrArg (fun c => c.2.2.1) e
  have e2 : y.grants = r.grants := congrArg (fun c => c.2.2.2) e
  rw [← e1, ← e2]; exact hv y hy
theorem nur_core {us ul : List User} (h : ul.map User.core = us.map User.core) (hv : ∀ u ∈ us, u.roles.length ≤ 1048576) : ∀ u ∈ ul, u.roles.length ≤ 1048576 := by
  intro u hu
  obtain ⟨y, hy, e⟩ := core_memP h hu
  have e1 : y.roles = u.roles := congrArg (fun c => c.2) e
  rw [← e1]; exact hv y hy
theorem nsp_core {ss sl : List Share} (h : sl.map Share.core = ss.map Share.core) (hv : ∀ s ∈ ss, s.perms.length ≤ 1048576) : ∀ s ∈ sl, s.perms.length ≤ 1048576 := by
  intro u hu
  obtain ⟨y, hy, e⟩ := core_memP h hu
  have e1 : y.perms = u.perms := congrArg (fun c => c.2.2.2.1) e
  rw [← e1]; exact hv y hy
theorem valid_core {os : List Org} {rs rl : List Role} {us ul : List User} {ss sl : List Share} (hr : rl.map Role.core = rs.map Role.core) (hu : ul.map User.core = us.map User.core) (hs : sl.map Share.core = ss.map Share.core) (h : Valid os rs us ss) : Valid os rl ul sl where
  oid := h.oid
  opar := h.opar
  ends := h.ends
  rid := by rw [ids_core hr]; exact h.rid
  uid := by rw [ids_coreU hu]; exact h.uid
  sid := by rw [ids_coreS hs]; exact h.sid
  rorg := rorg_core hr h.rorg
  urole := by
    intro u hum x hx
    obtain ⟨y, hy, e⟩ := core_memP hu hum
    have e1 : y.roles = u.roles := congrArg (fun c => c.2) e
    rw [ids_core hr]; exact h.urole y hy x (by rw [e1]; exact hx)
  sref := by
    intro s hsm
    obtain ⟨y, hy, e⟩ := core_memP hs hsm
    have e2 : y.owner = s.owner := congrArg (fun c => c.2.1) e
    have e3 : y.dest = s.dest := congrArg (fun c => c.2.2.1) e
    have e5 : y.by_ = s.by_ := congrArg (fun c => c.2.2.2.2) e
    rw [← e2, ← e3, ← e5, ids_coreU hu]; exact h.sref y hy
/-- NewModel's contract, at these organizations and this policy. -/
def NewOk (os : List Org) (an : List ByteArray) : Prop := ∀ (rl : List Role) (us : List User) (sl : List Share) (vO vR vU vS vA : Value) (w : World) (hn : os.length ≤ 1048576) (hnr : rl.length ≤ 1048576) (hnu : us.length ≤ 1048576) (hns : sl.length ≤ 1048576) (hna : an.length ≤ 1048576)
    (hos : OrgsAt w vO os) (hRs : RolesM w vR rl) (hUs : UsersAt w vU us) (hSs : SharesAt w vS sl) (han : StrsAt w vA an) (hur : ∀ u ∈ us, u.roles.length ≤ 1048576) (hnp : ∀ s ∈ sl, s.perms.length ≤ 1048576) (hv : Valid os rl us sl),
    Calls Try.prog 10 #[.agg #[vO, vR, vU, vS, .slice none 0 0, vA]] w (NewPost os rl sl an w)
theorem NewOk.at {os : List Org} {an : List ByteArray} (h : NewOk os an) {rs rl : List Role} {us ul : List User} {ss sl : List Share} {vO vR vU vS vA : Value} {w : World} (hSm : Small os rs us ss an) (hv : Valid os rs us ss) (t : ToW os rs us ss an w vO vR vU vS vA rl ul sl) :
    Calls Try.prog 10 #[.agg #[vO, vR, vU, vS, .slice none 0 0, vA]] w (NewPost os rl sl an w) :=
  h rl ul sl vO vR vU vS vA w hSm.no (by rw [core_len t.rc]; exact hSm.nr) (by rw [core_len t.uc]; exact hSm.nu) (by rw [core_len t.sc]; exact hSm.ns) hSm.na t.o t.r t.u t.s t.a (nur_core t.uc hSm.nur) (nsp_core t.sc hSm.nsp) (valid_core t.rc t.uc t.sc hv)
set_option maxRecDepth 1000000 in
set_option maxHeartbeats 6400000 in
theorem law4_h {x10 x11 x12 x13 x14 x15 x16 x17 x18 x19 x20 x21 x22 x23 x24 x25 x26 x27 x28 x29 x30 x31 x32 x33 x34 x35 x36 x37 x38 x39 x40 x41 x42 x43 x44 x45 x46 x47 x48 x49 x50 x51 x52 x53 x54 x55 x56 x57 x58 x59 x60 x61 x62 x63 x64 x65 x66 x67 x68 x69 x70 x71 x72 x73 x74 x75 x76 x77 x78 x79 x80 x81 x82 x83 x84 x85 x86 x87 x88 x89 x90 x91 x92 x93 x94 x95 x96 x97 x98 x99 x100 x101 x102 x103 x104 x105 x106 x107 x108 x109 x110 x111 x112 x113 x114 x115 x116 x117 x118 x119 x120 x121 x122 x123 x124 x125 x126 x127 x128 x129 x130 x131 x132 x133 x134 x135 x136 x137 x138 x139 x140 x141 x142 x143 x144 x145 x146 x147 x148 x149 x150 x151 x152 x153 x154 x155 x156 x157 x158 x159 x160 x161 x162 x163 x164 x165 x166 x167 x168 x169 x170 x171 x172 x173 x174 x175 x176 x177 x178 x179 x180 x181 x182 x183 x184 x185 x186 x187 x188 x189 x190 x191 x192 x193 x194 x195 x196 x197 x198 x199 x200 x201 x202 x203 x204 x205 x206 x207 x208 x209 x210 x211 x212 x213 x214 x215 x216 x217 x218 x219 x220 x221 x222 x223 x224 x225 x226 x227 x228 x229 x230 x231 x232 x233 x234 x235 x236 x237 x238 x239 x240 x241 x242 x243 x244 x245 x246 x247 x248 x249 x250 x251 x252 x253 x254 x255 x256 x257 x258 x259 x260 x261 x262 x263 x264 x265 x266 x267 x268 x269 x270 x271 x272 x273 x274 x275 x276 x277 x278 x279 x280 x281 : Value} (os : List Org) (rs : List Role) (us : List User) (ss : List Share) (an : List ByteArray) (ao ar au ash aa : Option Addr) (co cr cu csh ca : Nat) (user role org perm owner : ByteArray) (w wd : World)
    (ho : OrgsAt w (.slice ao os.length co) os) (hr : RolesAt w (.slice ar rs.length cr) rs) (hu : UsersAt w (.slice au us.length cu) us) (hs : SharesAt w (.slice ash ss.length csh) ss) (ha : StrsAt w (.slice aa an.length ca) an) (hSm : Small os rs us ss an) (hv : Hid (Valid os rs us ss)) (hex : Ext w wd) (hnew : NewOk os an)
    (hacc : Hid (∃ (k : Nat) (r : Role), rs[k]? = some r ∧ r.id = role ∧ r.org = org)) (hnd : Hid (∀ r ∈ rs, (r.grants.map Grant.name).Nodup)) (hor : okStr role) (hop : okStr perm) (hoo : okStr owner) (hoorg : okStr org) :
    Code.wp Try.prog (dropSeq 6 (Try.f4.body.getD .skip)) (bodyPost Try.prog Try.f4 (LawPost w)) ⟨#[.slice ao os.length co, .slice ar rs.length cr, .slice au us.length cu, .slice ash ss.length csh, .slice aa an.length ca, .string user, .string role, .string org, .string perm, .string owner, x10, x11, x12, x13, x14, x15, x16, x17, x18, x19, x20, x21, x22, x23, x24, x25, x26, x27, x28, x29, x30, x31, x32, x33, x34, x35, x36, x37, x38, x39, x40, x41, x42, x43, x44, x45, x46, x47, x48, x49, x50, x51, x52, x53, x54, x55, x56, x57, x58, x59, x60, x61, x62, x63, x64, x65, x66, x67, x68, x69, x70, x71, x72, x73, x74, x75, x76, x77, x78, x79, x80, x81, x82, x83, x84, x85, x86, x87, x88, x89, x90, x91, x92, x93, x94, x95, x96, x97, x98, x99, x100, x101, x102, x103, x104, x105, x106, x107, x108, x109, x110, x111, x112, x113, x114, x115, x116, x117, x118, x119, x120, x121, x122, x123, x124, x125, x126, x127, x128, x129, x130, x131, x132, x133, x134, x135, x136, x137, x138, x139, x140, x141, x142, x143, x144, x145, x146, x147, x148, x149, x150, x151, x152, x153, x154, x155, x156, x157, x158, x159, x160, x161, x162, x163, x164, x165, x166, x167, x168, x169, x170, x171, x172, x173, x174, x175, x176, x177, x178, x179, x180, x181, x182, x183, x184, x185, x186, x187, x188, x189, x190, x191, x192, x193, x194, x195, x196, x197, x198, x199, x200, x201, x202, x203, x204, x205, x206, x207, x208, x209, x210, x211, x212, x213, x214, x215, x216, x217, x218, x219, x220, x221, x222, x223, x224, x225, x226, x227, x228, x229, x230, x231, x232, x233, x234, x235, x236, x237, x238, x239, x240, x241, x242, x243, x244, x245, x246, x247, x248, x249, x250, x251, x252, x253, x254, x255, x256, x257, x258, x259, x260, x261, x262, x263, x264, x265, x266, x267, x268, x269, x270, x271, x272, x273, x274, x275, x276, x277, x278, x279, x280, x281], []⟩ wd := by
  conv => arg 2; whnf
  have htw := toWorld_any (.slice ao os.length co) (.slice ar rs.length cr) (.slice au us.length cu) (.slice ash ss.length csh) (.slice aa an.length ca) os rs us ss an wd (ho.ext hex) (hr.ext hex) (hu.ext hex) (hs.ext hex) (ha.ext hex) hSm
  repeat (first
    | (go_at_call 11; refine htw.mono ?_; rintro e w1 ⟨vO, vR, vU, vS, vA, rs', us', ss', tw, rfl, hx1⟩; have hnm := hnew.at hSm hv.out tw)
    | (go_at_call 10; refine hnm.mono ?_; rintro e w2 ⟨m, rl, sl, rfl, hM, hrc', hsc', hx2⟩; have HC : Hid (rl.map Role.core = rs.map Role.core ∧ sl.map Share.core = ss.map Share.core) := ⟨hrc'.trans tw.rc, hsc'.trans tw.sc⟩; clear hrc' hsc'; have he2 := (hex.trans hx1).trans hx2)
    | (go_at_call 12; refine (newAccess_any m user role org w2).mono ?_; rintro e w3 ⟨rfl, hw3⟩; have hx3 : Ext w2 w3 := (by rw [← hw3]; exact Ext.alloc _ _); have hB3 : Blk w3 w2.heap.size [.pointer (some ⟨m, 0, none⟩), .string user, .string role, .string org] := (by rw [← hw3]; exact Blk.alloc w2 _ 123); have he3 := he2.trans hx3; have hdec := accDecide_any w2.heap.size m os rl sl an user role org perm owner w3 (hM.ext hx3) hB3 hor hop hoo hSm.no (by rw [core_len HC.out.1]; exact hSm.nr) (by rw [core_len HC.out.2]; exact hSm.ns) (nsp_core HC.out.2 hSm.nsp) hv.out.ends (rorg_core HC.out.1 hv.out.rorg); clear hw3)
    | (go_at_call 13; refine hdec.mono ?_; rintro e w4 ⟨b, g, sc, sh, st, HO, rfl, hx4⟩; have he4 := he3.trans hx4; have hrc : Hid (rl.map Role.core = rs.map Role.core) := HC.out.1; have hsc : Hid (sl.map Share.core = ss.map Share.core) := HC.out.2)
    | (exact law4_t os rs rl us ss sl an ao ar ash aa co cr csh ca w4.heap.size role org perm owner b sc g sh st w _ ho hr hs ha hSm hv (he4.trans (Ext.alloc _ _)) (Blk.alloc w4 (D8 role perm owner b g sc sh st) 55) HO hrc hsc hacc hnd hoo hoorg)
    | go_values | go_skip | go_guarded | go_step | go_upon | (simp only [Int.not_lt, Int.not_le] at *; go_simp))
set_option maxRecDepth 1000000 in
set_option maxHeartbeats 6400000 in
theorem law4_any (vo vr vu vs va : Value) (os : List Org) (rs : List Role) (us : List User) (ss : List Share) (an : List ByteArray) (user role org perm owner : ByteArray) (w : World)
    (ho : OrgsAt w vo os) (hr : RolesAt w vr rs) (hu : UsersAt w vu us) (hs : SharesAt w vs ss) (ha : StrsAt w va an) (hor : okStr role) (hop : okStr perm) (hoo : okStr owner) (hoorg : okStr org) (hnew : NewOk os an) :
    Calls Try.prog 4 #[vo, vr, vu, vs, va, .string user, .string role, .string org, .string perm, .string owner] w (LawPost w) := by
  obtain ⟨ao, co, rfl, hco⟩ := ho.shape
  obtain ⟨ar, cr, rfl, hcr⟩ := hr.shape
  obtain ⟨au, cu, rfl, hcu⟩ := hu.shape
  obtain ⟨ash, csh, rfl, hcs⟩ := hs.shape
  obtain ⟨aa, ca, rfl, hca⟩ := ha.shape
  have c15 := bytes15_any (.slice ao os.length co) (.slice ar rs.length cr) (.slice au us.length cu) (.slice ash ss.length csh) (.slice aa an.length ca) os rs us ss an user role org perm owner w ho hr hu hs ha
  have hfd : ∀ (k : Int) (a1 a2 a3 a4 a5 a6 a7 : Value) (W : World), (Instr.field 32 (.agg #[.int .i64 k, a1, a2, a3, a4, a5, a6, a7]) 0).run Try.prog W = .ok (.int .i64 k) W := fun _ _ _ _ _ _ _ _ _ => by kernel_rfl
  have fin : ∀ W, Ext w W → LawPost w (.returned (.bool true)) W := fun W h => ⟨rfl, h⟩
  go_enter Try.func4, Try.ntmps4
  repeat (first
    | (go_at_call 15; refine c15.mono ?_; rintro e w' ⟨b, hb, rfl, rfl⟩; cases b; rotate_left; (have hSm := hb rfl; have c6 := fits_any (.slice ao os.length co) (.slice ar rs.length cr) (.slice au us.length cu) (.slice ash ss.length csh) (.slice aa an.length ca) os rs us ss an user role org perm owner ⟨#[]⟩ w ho hr hu hs ha hSm.no hSm.nr hSm.nu hSm.ns hSm.na hSm.ng hSm.nur hSm.nsp; clear hb))
    | (go_at_call 6; refine c6.mono ?_; rintro e w1 ⟨b, rfl, hx1⟩; cases b; rotate_left; (have c7 := distinct_any (.slice ar rs.length cr) rs w1 (hr.ext hx1) hSm.nr hSm.ng))
    | (go_at_call 7; refine c7.mono ?_; rintro e w2 ⟨b, hb, rfl, hx2⟩; have he2 := hx1.trans hx2; cases b; rotate_left; (have hnd : Hid (∀ r ∈ rs, (r.grants.map Grant.name).Nodup) := hb rfl; have c8 := wantOf_any (.slice ao os.length co) (.slice ar rs.length cr) (.slice au us.length cu) (.slice ash ss.length csh) os rs us ss w2 (ho.ext he2) (hr.ext he2) (hu.ext he2) (hs.ext he2) hSm.no hSm.nr hSm.nu hSm.ns hSm.ng hSm.nur; clear hb))
    | (go_at_call 8; refine c8.mono ?_; rintro e w3 ⟨k, a1, a2, a3, a4, a5, a6, a7, hk, rfl, hx3⟩; have he3 := he2.trans hx3; rcases ne_test k 0 with ⟨ek, hk0⟩ | ⟨ek, hk0⟩; (have hv : Hid (Valid os rs us ss) := hk hk0.out; obtain rfl := hk0.out; have c9 := accessOK_any (.slice au us.length cu) (.slice ar rs.length cr) us rs user role org w3 (hu.ext he3) (hr.ext he3) hSm.nu hSm.nr hSm.nur))
    | (go_at_call 9; refine c9.mono ?_; rintro e w4 ⟨b, hb, rfl, rfl⟩; cases b; rotate_left; (have hacc : Hid (∃ (k : Nat) (r : Role), rs[k]? = some r ∧ r.id = role ∧ r.org = org) := hb rfl; clear hb))
    | (exact law4_h os rs us ss an ao ar au ash aa co cr cu csh ca user role org perm owner w w3 ho hr hu hs ha hSm hv he3 hnew hacc hnd hor hop hoo hoorg)
    | (go_ret; exact fin _ (by first | exact he3 | exact he2 | exact hx1 | exact Ext.refl _))
    | go_values | go_skip | go_guarded | go_step | go_upon | (simp only [Int.not_lt, Int.not_le] at *; go_simp))

end Go.Proofs.Qxb6609292a
