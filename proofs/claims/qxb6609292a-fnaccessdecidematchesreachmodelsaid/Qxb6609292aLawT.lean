/-
  THE WALK of the law FnAccessDecideRefusesWithoutOwnGrant for seat b6609292a: behind Decide.
-/
import Derived.Test.Qxb6609292aLawU
set_option linter.unusedVariables false
set_option linter.unusedSimpArgs false
namespace Go.Proofs.Qxb6609292a
open Go.RowKit Go.Maps

theorem Try.info53' : (Try.prog.info? 53).map (·.size) = some 1 := by kernel_rfl
theorem Try.info9' : (Try.prog.info? 9).map (·.size) = some 1 := by kernel_rfl
set_option maxRecDepth 1000000 in
set_option maxHeartbeats 3200000 in
theorem law4_o {x2 x5 x10 x11 x12 x13 x14 x15 x16 x17 x18 x19 x20 x21 x22 x27 x28 x30 x31 x32 x33 x34 x35 x36 x37 x38 x39 x40 x41 x42 x43 x44 x45 x46 x47 x48 x49 x50 x51 x52 x53 x54 x55 x56 x57 x58 x59 x60 x61 x62 x63 x64 x65 x66 x67 x68 x69 x70 x71 x72 x73 x74 x75 x76 x77 x78 x79 x80 x81 x82 x83 x84 x85 x86 x87 x88 x89 x90 x91 x92 x93 x94 x95 x96 x97 x98 x99 x100 x101 x102 x103 x104 x105 x106 x107 x108 x109 x110 x111 x112 x113 x114 x115 x116 x117 x118 x119 x120 x121 x122 x123 x124 x125 x126 x127 x128 x129 x130 x131 x132 x133 x134 x135 x136 x137 x138 x139 x140 x141 x142 x143 x144 x145 x146 x147 x148 x149 x150 x151 x152 x153 x154 x155 x156 x157 x158 x159 x160 x161 x162 x163 x164 x165 x166 x167 x168 x169 x170 x171 x172 x173 x174 x175 x176 x177 x178 x179 x180 x181 x182 x183 x184 x185 x186 x187 x188 x189 x190 x191 x192 x193 x194 x195 x196 x197 x198 x199 x200 x201 x202 x203 x204 x205 x206 x207 x208 x209 x210 x211 x212 x213 x214 x215 x216 x217 x218 x219 x220 x221 x222 x223 x224 x225 x226 x227 x228 x229 x230 x231 x232 x233 x234 x235 x236 x237 x238 x239 x240 x241 x242 x243 x244 x245 x246 x247 x248 x249 x250 x251 x252 x253 x254 x255 x256 x257 x258 x259 x260 x261 x262 x263 x264 x265 x266 x267 x268 x269 x270 x271 x272 x273 x274 x275 x276 x277 x278 x279 x280 x281 : Value} (os : List Org) (rs : List Role) (us : List User) (ss : List Share) (an : List ByteArray) (ao ar ash aa : Option Addr) (co cr csh ca D bm p : Nat) (scope b sc : Int) (role org perm owner g sh st : ByteArray) (w wz : World)
    (ho : OrgsAt w (.slice ao os.length co) os) (hs : SharesAt w (.slice ash ss.length csh) ss) (ha : StrsAt w (.slice aa an.length ca) an) (hSm : Small os rs us ss an) (hv : Hid (Valid os rs us ss))
    (hex : Ext w wz) (hD : Blk wz D (D8 role perm owner b g sc sh st)) (hm : SM wz 3 bm os.length (posF (os.map Org.id) (os.map Org.id).length)) (hS : Hid (owner ≠ org → SoundR os ss an perm org p scope b g sc sh st)) (hO : Hid (owner = org → b = 1 ∧ g = owner ∧ sc = scope ∧ sh = E0 ∧ st = E0)) (hpl : p < os.length) (hin : org ∈ os.map Org.id) (hoorg : okStr org)
    (V : Nat) (hV : Blk wz V (D8 role perm owner 4 ⟨#[]⟩ 0 ⟨#[]⟩ ⟨#[]⟩)) (hVw : w.heap.size ≤ V) (hVD : D ≠ V) :
    Code.wp Try.prog (dropSeq 17 (Try.f4.body.getD .skip)) (bodyPost Try.prog Try.f4 (LawPost w)) ⟨#[.slice ao os.length co, .slice ar rs.length cr, x2, .slice ash ss.length csh, .slice aa an.length ca, x5, .string role, .string org, .string perm, .string owner, x10, x11, x12, x13, x14, x15, x16, x17, x18, x19, x20, x21, x22, .pointer (some ⟨D, 0, none⟩), .pointer (some ⟨V, 0, none⟩), .map (some bm), .int .i64 p, x27, x28, .int .i64 scope, x30, x31, x32, x33, x34, x35, x36, x37, x38, x39, x40, x41, x42, x43, x44, x45, x46, x47, x48, x49, x50, x51, x52, x53, x54, x55, x56, x57, x58, x59, x60, x61, x62, x63, x64, x65, x66, x67, x68, x69, x70, x71, x72, x73, x74, x75, x76, x77, x78, x79, x80, x81, x82, x83, x84, x85, x86, x87, x88, x89, x90, x91, x92, x93, x94, x95, x96, x97, x98, x99, x100, x101, x102, x103, x104, x105, x106, x107, x108, x109, x110, x111, x112, x113, x114, x115, x116, x117, x118, x119, x120, x121, x122, x123, x124, x125, x126, x127, x128, x129, x130, x131, x132, x133, x134, x135, x136, x137, x138, x139, x140, x141, x142, x143, x144, x145, x146, x147, x148, x149, x150, x151, x152, x153, x154, x155, x156, x157, x158, x159, x160, x161, x162, x163, x164, x165, x166, x167, x168, x169, x170, x171, x172, x173, x174, x175, x176, x177, x178, x179, x180, x181, x182, x183, x184, x185, x186, x187, x188, x189, x190, x191, x192, x193, x194, x195, x196, x197, x198, x199, x200, x201, x202, x203, x204, x205, x206, x207, x208, x209, x210, x211, x212, x213, x214, x215, x216, x217, x218, x219, x220, x221, x222, x223, x224, x225, x226, x227, x228, x229, x230, x231, x232, x233, x234, x235, x236, x237, x238, x239, x240, x241, x242, x243, x244, x245, x246, x247, x248, x249, x250, x251, x252, x253, x254, x255, x256, x257, x258, x259, x260, x261, x262, x263, x264, x265, x266, x267, x268, x269, x270, x271, x272, x273, x274, x275, x276, x277, x278, x279, x280, x281], []⟩ wz := by
  conv => arg 2; whnf
  rcases str_test owner org with ⟨e1, e2⟩ | ⟨e1, e2⟩
  · obtain ⟨rfl, rfl, rfl, rfl, rfl⟩ := hO.out e2.out
    obtain rfl := e2.out
    have hD : Blk wz D (D8 role perm g 1 g sc ⟨#[]⟩ ⟨#[]⟩) := hD
    unfold LawPost
    go_wp2_with (first
      | (refine wpList_st1 _ rfl 52 (.tmp 141) _ rfl V 3 _ (.int .i64 1) rfl hV rfl Try.info52 (by simp [D8]) rfl ?_; intro w5 hV5' hg5; have hV5 : Blk w5 V (D8 role perm g 1 ⟨#[]⟩ 0 ⟨#[]⟩ ⟨#[]⟩) := hV5'; have hD5 := hD.kept hg5 (sne (by omega)); clear hV5')
      | (refine wpList_st1 _ rfl 9 (.tmp 143) _ rfl V 4 _ (.string g) rfl hV5 rfl Try.info9' (by simp [D8]) rfl ?_; intro w6 hV6' hg6; have hV6 : Blk w6 V (D8 role perm g 1 g 0 ⟨#[]⟩ ⟨#[]⟩) := hV6'; have hD6 := hD5.kept hg6 (sne (by omega)); clear hV6')
      | (refine wpList_st1 _ rfl 53 (.tmp 145) _ rfl V 5 _ (.int .i64 sc) rfl hV6 rfl Try.info53' (by simp [D8]) rfl ?_; intro w7 hV7' hg7; have hV7 : Blk w7 V (D8 role perm g 1 g sc ⟨#[]⟩ ⟨#[]⟩) := hV7'; have hD7 := hD6.kept hg7 (sne (by omega)); obtain ⟨d0, d1, d2, d3, d4, d5, d6, d7⟩ := d8_cells hD7; obtain ⟨q0, q1, q2, q3, q4, q5, q6, q7⟩ := d8_cells hV7; clear hV7'))
    go_ret
    exact ⟨by simp [E0], ext_st (ext_st (ext_st hex hg5 hVw) hg6 hVw) hg7 hVw⟩
  · have hS' : Hid (SoundR os ss an perm org p scope b g sc sh st) := hS.out e2
    repeat (first | (exact law4_u os rs us ss an ao ar ash aa co cr csh ca D bm p scope b sc role org perm owner g sh st w wz ho hs ha hSm hv hex hD hm hS' hpl hin hoorg) | go_values | go_skip | go_guarded | go_step | go_upon | (simp only [Int.not_lt, Int.not_le] at *; go_simp))
theorem dec_empty {os : List Org} {rl : List Role} {sl : List Share} {an : List ByteArray} {role perm owner : ByteArray} {b : Int} {g : ByteArray} {sc : Int} {sh st : ByteArray} (h : DecR os rl sl an role perm owner b g sc sh st) (he : owner = E0) : b = 5 ∧ g = E0 ∧ sc = 0 ∧ sh = E0 ∧ st = E0 := by
  rcases h with ⟨_, h⟩ | ⟨h, _⟩ | ⟨h, _⟩
  · exact h
  · exact absurd he h
  · exact absurd he h
theorem dec_noorg {os : List Org} {rl : List Role} {sl : List Share} {an : List ByteArray} {role perm owner : ByteArray} {b : Int} {g : ByteArray} {sc : Int} {sh st : ByteArray} (h : DecR os rl sl an role perm owner b g sc sh st) (hne : owner ≠ E0) (hp : idxTo (os.map Org.id) (os.map Org.id).length owner = none) : b = 4 ∧ g = E0 ∧ sc = 0 ∧ sh = E0 ∧ st = E0 := by
  rcases h with ⟨h, _⟩ | ⟨_, _, h⟩ | ⟨_, p, hp', _⟩
  · exact absurd h hne
  · exact h
  · rw [hp] at hp'; cases hp'
/-- The role with this id is the one that Decide meets. -/
theorem role_one {rs : List Role} (hnd : (rs.map Role.id).Nodup) {i j : Nat} {a b : Role} {role : ByteArray} (hi : rs[i]? = some a) (ha : a.id = role) (hj : rs[j]? = some b) (hb : b.id = role) : a = b := by
  have e1 : (rs.map Role.id)[i]? = some role := by rw [List.getElem?_map, hi]; show some a.id = _; rw [ha]
  have e2 : (rs.map Role.id)[j]? = some role := by rw [List.getElem?_map, hj]; show some b.id = _; rw [hb]
  have := nodup_at hnd e1 e2
  subst this
  rw [hi] at hj
  exact Option.some.inj hj
set_option maxRecDepth 1000000 in
set_option maxHeartbeats 6400000 in
theorem law4_t {x2 x5 x10 x11 x12 x13 x14 x15 x16 x17 x18 x19 x20 x21 x22 x24 x25 x26 x27 x28 x29 x30 x31 x32 x33 x34 x35 x36 x37 x38 x39 x40 x41 x42 x43 x44 x45 x46 x47 x48 x49 x50 x51 x52 x53 x54 x55 x56 x57 x58 x59 x60 x61 x62 x63 x64 x65 x66 x67 x68 x69 x70 x71 x72 x73 x74 x75 x76 x77 x78 x79 x80 x81 x82 x83 x84 x85 x86 x87 x88 x89 x90 x91 x92 x93 x94 x95 x96 x97 x98 x99 x100 x101 x102 x103 x104 x105 x106 x107 x108 x109 x110 x111 x112 x113 x114 x115 x116 x117 x118 x119 x120 x121 x122 x123 x124 x125 x126 x127 x128 x129 x130 x131 x132 x133 x134 x135 x136 x137 x138 x139 x140 x141 x142 x143 x144 x145 x146 x147 x148 x149 x150 x151 x152 x153 x154 x155 x156 x157 x158 x159 x160 x161 x162 x163 x164 x165 x166 x167 x168 x169 x170 x171 x172 x173 x174 x175 x176 x177 x178 x179 x180 x181 x182 x183 x184 x185 x186 x187 x188 x189 x190 x191 x192 x193 x194 x195 x196 x197 x198 x199 x200 x201 x202 x203 x204 x205 x206 x207 x208 x209 x210 x211 x212 x213 x214 x215 x216 x217 x218 x219 x220 x221 x222 x223 x224 x225 x226 x227 x228 x229 x230 x231 x232 x233 x234 x235 x236 x237 x238 x239 x240 x241 x242 x243 x244 x245 x246 x247 x248 x249 x250 x251 x252 x253 x254 x255 x256 x257 x258 x259 x260 x261 x262 x263 x264 x265 x266 x267 x268 x269 x270 x271 x272 x273 x274 x275 x276 x277 x278 x279 x280 x281 : Value} (os : List Org) (rs rl : List Role) (us : List User) (ss sl : List Share) (an : List ByteArray) (ao ar ash aa : Option Addr) (co cr csh ca D : Nat) (role org perm owner : ByteArray) (b sc : Int) (g sh st : ByteArray) (w wd : World)
    (ho : OrgsAt w (.slice ao os.length co) os) (hr : RolesAt w (.slice ar rs.length cr) rs) (hs : SharesAt w (.slice ash ss.length csh) ss) (ha : StrsAt w (.slice aa an.length ca) an) (hSm : Small os rs us ss an) (hv : Hid (Valid os rs us ss)) (hex : Ext w wd)
    (hD : Blk wd D (D8 role perm owner b g sc sh st)) (HO : Hid (DecR os rl sl an role perm owner b g sc sh st)) (hrc : Hid (rl.map Role.core = rs.map Role.core)) (hsc : Hid (sl.map Share.core = ss.map Share.core)) (hacc : Hid (∃ (k : Nat) (r : Role), rs[k]? = some r ∧ r.id = role ∧ r.org = org)) (hnd : Hid (∀ r ∈ rs, (r.grants.map Grant.name).Nodup)) (hoo : okStr owner) (hoorg : okStr org) :
    Code.wp Try.prog (dropSeq 9 (Try.f4.body.getD .skip)) (bodyPost Try.prog Try.f4 (LawPost w)) ⟨#[.slice ao os.length co, .slice ar rs.length cr, x2, .slice ash ss.length csh, .slice aa an.length ca, x5, .string role, .string org, .string perm, .string owner, x10, x11, x12, x13, x14, x15, x16, x17, x18, x19, x20, x21, x22, .pointer (some ⟨D, 0, none⟩), x24, x25, x26, x27, x28, x29, x30, x31, x32, x33, x34, x35, x36, x37, x38, x39, x40, x41, x42, x43, x44, x45, x46, x47, x48, x49, x50, x51, x52, x53, x54, x55, x56, x57, x58, x59, x60, x61, x62, x63, x64, x65, x66, x67, x68, x69, x70, x71, x72, x73, x74, x75, x76, x77, x78, x79, x80, x81, x82, x83, x84, x85, x86, x87, x88, x89, x90, x91, x92, x93, x94, x95, x96, x97, x98, x99, x100, x101, x102, x103, x104, x105, x106, x107, x108, x109, x110, x111, x112, x113, x114, x115, x116, x117, x118, x119, x120, x121, x122, x123, x124, x125, x126, x127, x128, x129, x130, x131, x132, x133, x134, x135, x136, x137, x138, x139, x140, x141, x142, x143, x144, x145, x146, x147, x148, x149, x150, x151, x152, x153, x154, x155, x156, x157, x158, x159, x160, x161, x162, x163, x164, x165, x166, x167, x168, x169, x170, x171, x172, x173, x174, x175, x176, x177, x178, x179, x180, x181, x182, x183, x184, x185, x186, x187, x188, x189, x190, x191, x192, x193, x194, x195, x196, x197, x198, x199, x200, x201, x202, x203, x204, x205, x206, x207, x208, x209, x210, x211, x212, x213, x214, x215, x216, x217, x218, x219, x220, x221, x222, x223, x224, x225, x226, x227, x228, x229, x230, x231, x232, x233, x234, x235, x236, x237, x238, x239, x240, x241, x242, x243, x244, x245, x246, x247, x248, x249, x250, x251, x252, x253, x254, x255, x256, x257, x258, x259, x260, x261, x262, x263, x264, x265, x266, x267, x268, x269, x270, x271, x272, x273, x274, x275, x276, x277, x278, x279, x280, x281], []⟩ wd := by
  conv => arg 2; whnf
  have hx1 := Ext.alloc wd (.cells #[.string role, .string perm, .string owner, .int .i64 4, .string ⟨#[]⟩, .int .i64 0, .string ⟨#[]⟩, .string ⟨#[]⟩] 55)
  have hB1 : Blk (wd.alloc (.cells #[.string role, .string perm, .string owner, .int .i64 4, .string ⟨#[]⟩, .int .i64 0, .string ⟨#[]⟩, .string ⟨#[]⟩] 55)) wd.heap.size (D8 role perm owner 4 ⟨#[]⟩ 0 ⟨#[]⟩ ⟨#[]⟩) := Blk.alloc wd (D8 role perm owner 4 ⟨#[]⟩ 0 ⟨#[]⟩ ⟨#[]⟩) 55
  have hD1 := hD.ext hx1
  have he1 := hex.trans hx1
  have hDl := hD.lt
  have hwl := hex.size
  rcases str_empty owner with ⟨e1, e2⟩ | ⟨e1, e2⟩
  · obtain ⟨rfl, rfl, rfl, rfl, rfl⟩ := dec_empty HO.out e2.out
    clear e2
    unfold LawPost
    go_wp2_with (refine wpList_st1 _ rfl 52 (.tmp 104) _ rfl wd.heap.size 3 _ (.int .i64 5) rfl hB1 rfl Try.info52 (by simp [D8]) rfl ?_; intro w2 hB2' hg2; have hB2 : Blk w2 wd.heap.size (D8 role perm owner 5 ⟨#[]⟩ 0 ⟨#[]⟩ ⟨#[]⟩) := hB2'; have hD2 : Blk w2 D (D8 role perm owner 5 ⟨#[]⟩ 0 ⟨#[]⟩ ⟨#[]⟩) := hD1.kept hg2 (sne (by omega)); obtain ⟨d0, d1, d2, d3, d4, d5, d6, d7⟩ := d8_cells hD2; obtain ⟨q0, q1, q2, q3, q4, q5, q6, q7⟩ := d8_cells hB2; clear hB2')
    go_ret
    exact ⟨by simp, ext_st he1 hg2 hwl⟩
  · have hidx := orgIndex_any (.slice ao os.length co) os (wd.alloc (.cells #[.string role, .string perm, .string owner, .int .i64 4, .string ⟨#[]⟩, .int .i64 0, .string ⟨#[]⟩, .string ⟨#[]⟩] 55)) (ho.ext he1) hSm.no
    cases hp : idxTo (os.map Org.id) (os.map Org.id).length owner with
    | none =>
      obtain ⟨rfl, rfl, rfl, rfl, rfl⟩ := dec_noorg HO.out e2 hp
      have hD1 : Blk (wd.alloc (.cells #[.string role, .string perm, .string owner, .int .i64 4, .string ⟨#[]⟩, .int .i64 0, .string ⟨#[]⟩, .string ⟨#[]⟩] 55)) D (D8 role perm owner 4 ⟨#[]⟩ 0 ⟨#[]⟩ ⟨#[]⟩) := hD1
      unfold LawPost
      go_wp2_with (go_at_call 16; refine hidx.mono ?_; rintro e w2 ⟨bm, rfl, hm', hx2⟩; have hm : SM w2 3 bm os.length (posF (os.map Org.id) (os.map Org.id).length) := (by rw [List.length_map]; exact hm'); have hlk := hm.nopos hoo hp; obtain ⟨d0, d1, d2, d3, d4, d5, d6, d7⟩ := d8_cells (hD1.ext hx2); obtain ⟨q0, q1, q2, q3, q4, q5, q6, q7⟩ := d8_cells (hB1.ext hx2); clear hm')
      go_ret
      exact ⟨by simp, he1.trans hx2⟩
    | some p =>
      obtain ⟨k0, r0, hk0, hid0, horg0⟩ := hacc.out
      obtain ⟨kl, rl', hkl, hrl'⟩ := role_found hrc.out hk0 hid0
      have hcore := role_core hrc.out hv.out.rid.1 hk0 hid0 hkl hrl'
      have hpl : p < os.length := by have := (idx_some _ _ _ hp).2; rwa [List.length_map] at this
      have hin : org ∈ os.map Org.id := by rw [← horg0]; exact (hv.out.rorg r0 (List.mem_of_getElem? hk0)).1
      have HP : Hid (idxTo (os.map Org.id) (os.map Org.id).length owner = some p) := hp
      have hri := fun W2 (h2 : Ext w W2) => roleIndex_any (.slice ar rs.length cr) rs role W2 (hr.ext h2) hSm.nr
      have hng := hSm.ng r0 (List.mem_of_getElem? hk0)
      have HC : Hid (rs[k0]? = some r0 ∧ r0.id = role ∧ r0.org = org ∧ idxTo (rl.map Role.id) (rl.map Role.id).length role = some kl ∧ rl[kl]? = some rl' ∧ rl'.org = r0.org ∧ rl'.grants = r0.grants) := ⟨hk0, hid0, horg0, hkl, hrl', hcore⟩
      clear hp hk0 hid0 horg0 hkl hrl' hcore
      have hgnone : Hid ((∀ g ∈ r0.grants, g.name ≠ perm) → b = 4 ∧ g = E0 ∧ sc = 0 ∧ sh = E0 ∧ st = E0) := by
        intro hno
        refine dec_ungranted HO.out e2 (fun k r h1 h2 => ?_)
        rw [HC.out.2.2.2.1] at h1; cases h1
        rw [HC.out.2.2.2.2.1] at h2; cases h2
        rw [HC.out.2.2.2.2.2.2]; exact permTo_none hno _
      have hgsome : Hid (∀ g1 ∈ r0.grants, g1.name = perm → (owner = org → b = 1 ∧ g = owner ∧ sc = g1.scope ∧ sh = E0 ∧ st = E0) ∧ (owner ≠ org → SoundR os ss an perm org p g1.scope b g sc sh st)) := by
        intro g1 hg1 hn1
        have hpt : permTo rl'.grants rl'.grants.length perm = some g1.scope := by
          rw [HC.out.2.2.2.2.2.2, ← hn1]
          exact permTo_mem' (hnd.out r0 (List.mem_of_getElem? HC.out.1)) hg1
        have hro : rl'.org = org := HC.out.2.2.2.2.2.1.trans HC.out.2.2.1
        refine ⟨fun h => ?_, fun h => ?_⟩
        · exact dec_own HO.out e2 HC.out.2.2.2.1 HC.out.2.2.2.2.1 hpt (hro.trans h.symm) (by rw [h]; exact hin)
        · exact dec_sound HO.out hsc.out e2 HC.out.2.2.2.1 HC.out.2.2.2.2.1 hpt hro h hin HP.out
      repeat (first
        | (go_at_call 16; refine hidx.mono ?_; rintro e w2 ⟨bm, rfl, hm', hx2⟩; have hm : SM w2 3 bm os.length (posF (os.map Org.id) (os.map Org.id).length) := (by rw [List.length_map]; exact hm'); have hlk := hm.pos hoo HP.out; have he2 := he1.trans hx2; clear hm')
        | (go_at_call 17; refine (hri w2 he2).mono ?_; rintro e w' ⟨z, ⟨rfl, hz⟩ | ⟨k1, r1, rfl, hk1, hid1⟩, rfl, rfl⟩; (exact absurd HC.out.2.1 (hz r0 (List.mem_of_getElem? HC.out.1))); (obtain rfl := role_one hv.out.rid.1 hk1 hid1 HC.out.1 HC.out.2.1; obtain ⟨rb, ro, rfl, z0, z1, z2, z3, ok⟩ := (hr.ext he2).at hk1; have hk1l := (List.getElem?_eq_some_iff.1 hk1).1; have hgv := ok.2.2.2; obtain ⟨ga, gc, hgve, hgc⟩ := hgv.shape; have z3' := z3; rw [hgve] at z3'; have hgr := grantOf_any r1 r1.id r1.name r1.org perm w2 hgv hng; rw [hgve] at hgr; clear hk1 hid1 z3 hgve))
        | (go_at_call 18; refine hgr.mono ?_; rintro e w3 ⟨⟨g1, hg1, hn1, rfl⟩ | ⟨hno, rfl⟩, hx3⟩; (have he3 := he2.trans hx3; have hO3 : Hid (owner = org → b = 1 ∧ g = owner ∧ sc = g1.scope ∧ sh = E0 ∧ st = E0) := (hgsome.out g1 hg1 hn1).1; have hS3 : Hid (owner ≠ org → SoundR os ss an perm org p g1.scope b g sc sh st) := (hgsome.out g1 hg1 hn1).2; clear hg1 hn1))
        | (exact law4_o os rs us ss an ao _ ash aa co cr csh ca D bm p g1.scope b sc role org perm owner g sh st w w3 ho hs ha hSm hv he3 (hD1.ext (hx2.trans hx3)) (hm.ext hx3) hS3 hO3 hpl hin hoorg wd.heap.size (hB1.ext (hx2.trans hx3)) hwl (by omega))
        | (obtain ⟨rfl, rfl, rfl, rfl, rfl⟩ := hgnone.out hno; have hD3 : Blk w3 D (D8 role perm owner 4 ⟨#[]⟩ 0 ⟨#[]⟩ ⟨#[]⟩) := hD1.ext (hx2.trans hx3); have he3 := he2.trans hx3; obtain ⟨d0, d1, d2, d3, d4, d5, d6, d7⟩ := d8_cells hD3; obtain ⟨q0, q1, q2, q3, q4, q5, q6, q7⟩ := d8_cells (hB1.ext (hx2.trans hx3)); clear hno hgnone hgsome; unfold LawPost; go_wp2; go_ret; exact ⟨by simp, he3⟩)
        | go_values | go_skip | go_guarded | go_step | go_upon | (simp only [Int.not_lt, Int.not_le] at *; go_simp))

end Go.Proofs.Qxb6609292a
