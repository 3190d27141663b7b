/-
  THE WALK of modelDecide for seat b6609292a: its head.
-/
import Derived.Test.Qxb6609292aMdB
import Derived.Test.Qxb6609292aLawT
set_option linter.unusedVariables false
set_option linter.unusedSimpArgs false
namespace Go.Proofs.Qxb6609292a
open Go.RowKit Go.Maps

set_option maxRecDepth 1000000 in
set_option maxHeartbeats 3200000 in
theorem md_12 {x0 x4 x6 x7 x8 x9 x10 x11 x12 x13 x18 x21 x24 x25 x26 x27 x28 x29 x30 x31 x32 x33 x34 x35 x36 x37 x38 x39 x40 x41 x42 x43 x44 x45 x46 x47 x48 x49 x50 x51 x52 x53 x54 x55 x56 x57 x58 x59 x60 x61 x62 x63 x64 x65 x66 x67 x68 x69 x70 x71 x72 x73 x74 x75 x76 x77 x78 x79 x80 x81 x82 x83 x84 x85 x86 x87 x88 x89 x90 x91 x92 x93 x94 x95 x96 x97 x98 x99 x100 x101 x102 x103 x104 x105 x106 x107 x108 x109 x110 x111 x112 x113 x114 x115 x116 x117 x118 x119 x120 x121 x122 x123 x124 x125 x126 x127 x128 x129 x130 x131 x132 x133 x134 x135 x136 x137 x138 x139 x140 x141 x142 x143 x144 x145 x146 x147 x148 x149 x150 x151 x152 x153 x154 x155 x156 x157 x158 x159 x160 x161 x162 x163 x164 x165 x166 x167 x168 x169 x170 x171 x172 x173 x174 x175 x176 x177 x178 : Value} (os : List Org) (rs : List Role) (us : List User) (ss : List Share) (an : List ByteArray) (ar ash aa : Option Addr) (cr csh ca gp p k0 : Nat) (r0 : Role) (scope : Int) (own : List Nat) (org : ByteArray) (R D : Nat) (role perm owner : ByteArray) (b : Int) (g : ByteArray) (sc : Int) (sh st : ByteArray) (w wz : World)
    (hr : RolesAt w (.slice ar rs.length cr) rs) (hs : SharesAt w (.slice ash ss.length csh) ss) (ha : StrsAt w (.slice aa an.length ca) an) (hSm : Small os rs us ss an) (hv : Hid (Valid os rs us ss)) (HK : Hid (rs[k0]? = some r0)) (horg : Hid (r0.org = org)) (hpl : p < os.length) (htl : posD (os.map Org.id) org < os.length)
    (hex : Ext w wz) (hP : Blk wz gp ((parL os).map iI)) (hR : Blk wz R (D8 ⟨#[]⟩ ⟨#[]⟩ ⟨#[]⟩ 0 ⟨#[]⟩ 0 ⟨#[]⟩ ⟨#[]⟩)) (hD : Blk wz D (D8 role perm owner 4 ⟨#[]⟩ 0 ⟨#[]⟩ ⟨#[]⟩)) (hRw : w.heap.size ≤ R) (hDw : w.heap.size ≤ D) (hRD : R ≠ D) (hA : Hid (AnsR os ss an perm org p scope own b g sc sh st)) (bm : Nat) (hm : SM wz 3 bm os.length (posF (os.map Org.id) (os.map Org.id).length)) (hown : Hid (OwnOk (parL os) (posD (os.map Org.id) org) scope own)) :
    Code.wp Try.prog (dropSeq 12 (Try.f14.body.getD .skip)) (bodyPost Try.prog Try.f14 (MdPost role perm owner b g sc sh st w)) ⟨#[x0, .slice ar rs.length cr, .slice ash ss.length csh, .slice aa an.length ca, x4, .string perm, x6, x7, x8, x9, x10, x11, x12, x13, .pointer (some ⟨R, 0, none⟩), .pointer (some ⟨D, 0, none⟩), .map (some bm), .int .i64 p, x18, .int .i64 (k0 : Int), .int .i64 scope, x21, .slice (some ⟨gp, 0, none⟩) os.length os.length, .int .i64 (posD (os.map Org.id) org), x24, x25, x26, x27, x28, x29, x30, x31, x32, x33, x34, x35, x36, x37, x38, x39, x40, x41, x42, x43, x44, x45, x46, x47, x48, x49, x50, x51, x52, x53, x54, x55, x56, x57, x58, x59, x60, x61, x62, x63, x64, x65, x66, x67, x68, x69, x70, x71, x72, x73, x74, x75, x76, x77, x78, x79, x80, x81, x82, x83, x84, x85, x86, x87, x88, x89, x90, x91, x92, x93, x94, x95, x96, x97, x98, x99, x100, x101, x102, x103, x104, x105, x106, x107, x108, x109, x110, x111, x112, x113, x114, x115, x116, x117, x118, x119, x120, x121, x122, x123, x124, x125, x126, x127, x128, x129, x130, x131, x132, x133, x134, x135, x136, x137, x138, x139, x140, x141, x142, x143, x144, x145, x146, x147, x148, x149, x150, x151, x152, x153, x154, x155, x156, x157, x158, x159, x160, x161, x162, x163, x164, x165, x166, x167, x168, x169, x170, x171, x172, x173, x174, x175, x176, x177, x178], []⟩ wz := by
  conv => arg 2; whnf
  obtain ⟨rank, hrk, _⟩ := ranked_of_ends (P := parL os) (by rw [parL_len]; exact hv.out.ends)
  have hPL := parL_len os
  have c46 := reachesByGrant_any (parL os) rank gp (posD (os.map Org.id) org) p scope wz hP (rng_parL os) hrk (by omega)
  rw [hPL] at c46
  have hk0l := (List.getElem?_eq_some_iff.1 HK.out).1
  by_cases hre : Reaches (parL os) (posD (os.map Org.id) org) scope p
  · obtain ⟨rfl, rfl, rfl, rfl, rfl⟩ := ans_reach hA.out hre
    obtain ⟨rb, ro, rfl, z0, z1, z2, z3, ok⟩ := (hr.ext hex).at HK.out
    have k46 := c46.mono (R' := fun e w' => e = .returned (.bool true) ∧ wz = w') (by rintro e w' ⟨q, hq, rfl, rfl⟩; rw [hq.2 hre]; exact ⟨rfl, rfl⟩)
    rw [horg.out] at z2
    clear c46 z0 z1 z3 ok hre
    unfold MdPost
    go_wp2_with (first
      | (go_at_call 46; refine k46.mono ?_; rintro e w' ⟨rfl, rfl⟩)
      | (refine wpList_st1 _ rfl 52 (.tmp 79) _ rfl D 3 _ (.int .i64 1) rfl hD rfl Try.info52 (by simp [D8]) rfl ?_; intro w5 hD5' hg5; have hD5 : Blk w5 D (D8 role perm owner 1 ⟨#[]⟩ 0 ⟨#[]⟩ ⟨#[]⟩) := hD5'; obtain ⟨_, _, hrb, z0, z1, z2, z3, ok⟩ := (hr.ext (ext_st hex hg5 hDw)).at HK.out; cases hrb; rw [horg.out] at z2; clear hD5' z0 z1 z3 ok)
      | (refine wpList_st1 _ rfl 9 (.tmp 85) _ rfl D 4 _ (.string g) rfl hD5 rfl Try.info9m (by simp [D8]) rfl ?_; intro w6 hD6' hg6; have hD6 : Blk w6 D (D8 role perm owner 1 g 0 ⟨#[]⟩ ⟨#[]⟩) := hD6'; clear hD6')
      | (refine wpList_st1 _ rfl 53 (.tmp 87) _ rfl D 5 _ (.int .i64 sc) rfl hD6 rfl Try.info53m (by simp [D8]) rfl ?_; intro w7 hD7' hg7; have hD7 : Blk w7 D (D8 role perm owner 1 g sc ⟨#[]⟩ ⟨#[]⟩) := hD7'; have hR7 := ((hR.kept hg5 (sne hRD)).kept hg6 (sne hRD)).kept hg7 (sne hRD); have hx7 := ext_st (ext_st (ext_st hex hg5 hDw) hg6 hDw) hg7 hDw; obtain ⟨d0, d1, d2, d3, d4, d5, d6, d7⟩ := d8_cells hD7; clear hD7')
      | (refine wpList_st _ rfl 55 (.tmp 14) (.tmp 88) rfl R 0 _ (.agg #[.string role, .string perm, .string owner, .int .i64 (1), .string (g), .int .i64 (sc), .string (⟨#[]⟩), .string (⟨#[]⟩)]) (D8 role perm owner (1) (g) (sc) (⟨#[]⟩) (⟨#[]⟩)) rfl hR7 rfl rfl Try.info55 (by simp [D8]) (by simp [D8, Value.oneCell']) ?_; intro w8 hR8' hg8; have hR8 : Blk w8 R (D8 role perm owner (1) (g) (sc) (⟨#[]⟩) (⟨#[]⟩)) := hR8'; obtain ⟨q0, q1, q2, q3, q4, q5, q6, q7⟩ := d8_cells hR8))
    refine bodyPost_ret (v := .agg #[.string role, .string perm, .string owner, .int .i64 (1), .string (g), .int .i64 (sc), .string (⟨#[]⟩), .string (⟨#[]⟩)]) (by simp [results, Try.results14, go_sem, q0, q1, q2, q3, q4, q5, q6, q7]) rfl ⟨rfl, ext_st hx7 hg8 hRw⟩
  · have k46 := c46.mono (R' := fun e w' => e = .returned (.bool false) ∧ wz = w') (by rintro e w' ⟨q, hq, rfl, rfl⟩; rw [show q = false from Bool.eq_false_iff.2 (fun h => hre (hq.1 h))]; exact ⟨rfl, rfl⟩)
    have hnr : Hid (¬ Reaches (parL os) (posD (os.map Org.id) org) scope p) := hre
    clear c46 hre
    repeat (first
      | (go_at_call 46; refine k46.mono ?_; rintro e w' ⟨rfl, rfl⟩)
      | (exact md_13 os rs us ss an ar ash aa cr csh ca gp p k0 r0 scope own org R D role perm owner b g sc sh st w wz hr hs ha hSm hv HK horg hpl htl hex hP hR hD hRw hDw hRD hA hnr bm hm hown)
      | go_values | go_skip | go_guarded | go_step | go_upon | (simp only [Int.not_lt, Int.not_le] at *; go_simp))
set_option maxRecDepth 1000000 in
set_option maxHeartbeats 3200000 in
theorem md_10 {x4 x6 x7 x8 x9 x10 x11 x12 x13 x18 x21 x22 x23 x24 x25 x26 x27 x28 x29 x30 x31 x32 x33 x34 x35 x36 x37 x38 x39 x40 x41 x42 x43 x44 x45 x46 x47 x48 x49 x50 x51 x52 x53 x54 x55 x56 x57 x58 x59 x60 x61 x62 x63 x64 x65 x66 x67 x68 x69 x70 x71 x72 x73 x74 x75 x76 x77 x78 x79 x80 x81 x82 x83 x84 x85 x86 x87 x88 x89 x90 x91 x92 x93 x94 x95 x96 x97 x98 x99 x100 x101 x102 x103 x104 x105 x106 x107 x108 x109 x110 x111 x112 x113 x114 x115 x116 x117 x118 x119 x120 x121 x122 x123 x124 x125 x126 x127 x128 x129 x130 x131 x132 x133 x134 x135 x136 x137 x138 x139 x140 x141 x142 x143 x144 x145 x146 x147 x148 x149 x150 x151 x152 x153 x154 x155 x156 x157 x158 x159 x160 x161 x162 x163 x164 x165 x166 x167 x168 x169 x170 x171 x172 x173 x174 x175 x176 x177 x178 : Value} (os : List Org) (rs : List Role) (us : List User) (ss : List Share) (an : List ByteArray) (ao ar ash aa : Option Addr) (co cr csh ca p k0 : Nat) (r0 : Role) (scope : Int) (own : List Nat) (org : ByteArray) (R D : Nat) (role perm owner : ByteArray) (b : Int) (g : ByteArray) (sc : Int) (sh st : ByteArray) (w wz : World)
    (ho : OrgsAt w (.slice ao os.length co) os) (hr : RolesAt w (.slice ar rs.length cr) rs) (hs : SharesAt w (.slice ash ss.length csh) ss) (ha : StrsAt w (.slice aa an.length ca) an) (hSm : Small os rs us ss an) (hv : Hid (Valid os rs us ss)) (HK : Hid (rs[k0]? = some r0)) (horg : Hid (r0.org = org)) (hpl : p < os.length) (htl : posD (os.map Org.id) org < os.length)
    (hex : Ext w wz) (hR : Blk wz R (D8 ⟨#[]⟩ ⟨#[]⟩ ⟨#[]⟩ 0 ⟨#[]⟩ 0 ⟨#[]⟩ ⟨#[]⟩)) (hD : Blk wz D (D8 role perm owner 4 ⟨#[]⟩ 0 ⟨#[]⟩ ⟨#[]⟩)) (hRw : w.heap.size ≤ R) (hDw : w.heap.size ≤ D) (hRD : R ≠ D) (hA : Hid (AnsR os ss an perm org p scope own b g sc sh st)) (bm : Nat) (hm : SM wz 3 bm os.length (posF (os.map Org.id) (os.map Org.id).length)) (hown : Hid (OwnOk (parL os) (posD (os.map Org.id) org) scope own)) (hoorg : okStr org) :
    Code.wp Try.prog (dropSeq 10 (Try.f14.body.getD .skip)) (bodyPost Try.prog Try.f14 (MdPost role perm owner b g sc sh st w)) ⟨#[.slice ao os.length co, .slice ar rs.length cr, .slice ash ss.length csh, .slice aa an.length ca, x4, .string perm, x6, x7, x8, x9, x10, x11, x12, x13, .pointer (some ⟨R, 0, none⟩), .pointer (some ⟨D, 0, none⟩), .map (some bm), .int .i64 p, x18, .int .i64 (k0 : Int), .int .i64 scope, x21, x22, x23, x24, x25, x26, x27, x28, x29, x30, x31, x32, x33, x34, x35, x36, x37, x38, x39, x40, x41, x42, x43, x44, x45, x46, x47, x48, x49, x50, x51, x52, x53, x54, x55, x56, x57, x58, x59, x60, x61, x62, x63, x64, x65, x66, x67, x68, x69, x70, x71, x72, x73, x74, x75, x76, x77, x78, x79, x80, x81, x82, x83, x84, x85, x86, x87, x88, x89, x90, x91, x92, x93, x94, x95, x96, x97, x98, x99, x100, x101, x102, x103, x104, x105, x106, x107, x108, x109, x110, x111, x112, x113, x114, x115, x116, x117, x118, x119, x120, x121, x122, x123, x124, x125, x126, x127, x128, x129, x130, x131, x132, x133, x134, x135, x136, x137, x138, x139, x140, x141, x142, x143, x144, x145, x146, x147, x148, x149, x150, x151, x152, x153, x154, x155, x156, x157, x158, x159, x160, x161, x162, x163, x164, x165, x166, x167, x168, x169, x170, x171, x172, x173, x174, x175, x176, x177, x178], []⟩ wz := by
  conv => arg 2; whnf
  have hpo := parentsOf_any (.slice ao os.length co) os bm os.length wz (ho.ext hex) hSm.no hm
  obtain ⟨rb, ro, rfl, z0, z1, z2, z3, ok⟩ := (hr.ext hex).at HK.out
  have hk0l := (List.getElem?_eq_some_iff.1 HK.out).1
  clear z0 z1 z2 z3 ok
  repeat (first
    | (go_at_call 19; refine hpo.mono ?_; rintro e w4 ⟨gp, rfl, hP, hx4, hgp⟩; have hlk := (hm.ext hx4).posD hoorg; have he4 := hex.trans hx4; obtain ⟨_, _, hrb, z0, z1, z2, z3, ok⟩ := (hr.ext he4).at HK.out; cases hrb; rw [horg.out] at z2; clear z0 z1 z3 ok)
    | (exact md_12 os rs us ss an _ ash aa cr csh ca gp p k0 r0 scope own org R D role perm owner b g sc sh st w w4 hr hs ha hSm hv HK horg hpl htl he4 hP (hR.ext hx4) (hD.ext hx4) hRw hDw hRD hA bm (hm.ext hx4) hown)
    | go_values | go_skip | go_guarded | go_step | go_upon | (simp only [Int.not_lt, Int.not_le] at *; go_simp))
set_option maxRecDepth 1000000 in
set_option maxHeartbeats 6400000 in
theorem modelDecide_any (vo vr vs va : Value) (os : List Org) (rs : List Role) (us : List User) (ss : List Share) (an : List ByteArray) (role perm owner org : ByteArray) (b : Int) (g : ByteArray) (sc : Int) (sh st : ByteArray) (k0 : Nat) (r0 : Role) (w : World)
    (ho : OrgsAt w vo os) (hr : RolesAt w vr rs) (hs : SharesAt w vs ss) (ha : StrsAt w va an) (hSm : Small os rs us ss an) (hv : Hid (Valid os rs us ss)) (HC : Hid (rs[k0]? = some r0 ∧ r0.id = role ∧ r0.org = org)) (hoo : okStr owner) (hoorg : okStr org)
    (hE : Hid (owner = E0 → b = 5 ∧ g = E0 ∧ sc = 0 ∧ sh = E0 ∧ st = E0)) (hN : Hid (owner ≠ E0 → idxTo (os.map Org.id) (os.map Org.id).length owner = none → b = 4 ∧ g = E0 ∧ sc = 0 ∧ sh = E0 ∧ st = E0))
    (hU : Hid (owner ≠ E0 → (∀ g ∈ r0.grants, g.name ≠ perm) → b = 4 ∧ g = E0 ∧ sc = 0 ∧ sh = E0 ∧ st = E0))
    (hG : Hid (owner ≠ E0 → ∀ p, idxTo (os.map Org.id) (os.map Org.id).length owner = some p → ∀ g1 ∈ r0.grants, g1.name = perm → ∃ own, OwnOk (parL os) (posD (os.map Org.id) org) g1.scope own ∧ AnsR os ss an perm org p g1.scope own b g sc sh st)) :
    Calls Try.prog 14 #[vo, vr, vs, va, .string role, .string perm, .string owner] w (MdPost role perm owner b g sc sh st w) := by
  obtain ⟨ao, co, rfl, hco⟩ := ho.shape
  obtain ⟨ar, cr, rfl, hcr⟩ := hr.shape
  obtain ⟨ash, csh, rfl, hcs⟩ := hs.shape
  obtain ⟨aa, ca, rfl, hca⟩ := ha.shape
  have he1 : Ext w ((w.alloc (.cells #[.string ⟨#[]⟩, .string ⟨#[]⟩, .string ⟨#[]⟩, .int .i64 0, .string ⟨#[]⟩, .int .i64 0, .string ⟨#[]⟩, .string ⟨#[]⟩] 55)).alloc (.cells #[.string role, .string perm, .string owner, .int .i64 4, .string ⟨#[]⟩, .int .i64 0, .string ⟨#[]⟩, .string ⟨#[]⟩] 55)) := (Ext.alloc _ _).trans (Ext.alloc _ _)
  have hR1 : Blk ((w.alloc (.cells #[.string ⟨#[]⟩, .string ⟨#[]⟩, .string ⟨#[]⟩, .int .i64 0, .string ⟨#[]⟩, .int .i64 0, .string ⟨#[]⟩, .string ⟨#[]⟩] 55)).alloc (.cells #[.string role, .string perm, .string owner, .int .i64 4, .string ⟨#[]⟩, .int .i64 0, .string ⟨#[]⟩, .string ⟨#[]⟩] 55)) w.heap.size (D8 ⟨#[]⟩ ⟨#[]⟩ ⟨#[]⟩ 0 ⟨#[]⟩ 0 ⟨#[]⟩ ⟨#[]⟩) := (Blk.alloc w (D8 ⟨#[]⟩ ⟨#[]⟩ ⟨#[]⟩ 0 ⟨#[]⟩ 0 ⟨#[]⟩ ⟨#[]⟩) 55).ext (Ext.alloc _ _)
  have hD1 : Blk ((w.alloc (.cells #[.string ⟨#[]⟩, .string ⟨#[]⟩, .string ⟨#[]⟩, .int .i64 0, .string ⟨#[]⟩, .int .i64 0, .string ⟨#[]⟩, .string ⟨#[]⟩] 55)).alloc (.cells #[.string role, .string perm, .string owner, .int .i64 4, .string ⟨#[]⟩, .int .i64 0, .string ⟨#[]⟩, .string ⟨#[]⟩] 55)) (w.heap.size + 1) (D8 role perm owner 4 ⟨#[]⟩ 0 ⟨#[]⟩ ⟨#[]⟩) := by
    have h := Blk.alloc (w.alloc (.cells #[.string ⟨#[]⟩, .string ⟨#[]⟩, .string ⟨#[]⟩, .int .i64 0, .string ⟨#[]⟩, .int .i64 0, .string ⟨#[]⟩, .string ⟨#[]⟩] 55)) (D8 role perm owner 4 ⟨#[]⟩ 0 ⟨#[]⟩ ⟨#[]⟩) 55
    rw [show (w.alloc (.cells #[.string ⟨#[]⟩, .string ⟨#[]⟩, .string ⟨#[]⟩, .int .i64 0, .string ⟨#[]⟩, .int .i64 0, .string ⟨#[]⟩, .string ⟨#[]⟩] 55)).heap.size = w.heap.size + 1 from by simp] at h
    exact h
  have hRD : w.heap.size ≠ w.heap.size + 1 := by omega
  have hDw : w.heap.size ≤ w.heap.size + 1 := by omega
  rcases str_empty owner with ⟨e1, e2⟩ | ⟨e1, e2⟩
  · obtain ⟨rfl, rfl, rfl, rfl, rfl⟩ := hE.out e2.out
    clear e2
    unfold MdPost
    go_enter Try.func14, Try.ntmps14
    go_wp2_with (first
      | (refine wpList_st1 _ rfl 52 (.tmp 33) _ rfl (w.heap.size + 1) 3 _ (.int .i64 5) rfl hD1 rfl Try.info52 (by simp [D8]) rfl ?_; intro w2 hD2' hg2; have hD2 : Blk w2 (w.heap.size + 1) (D8 role perm owner 5 ⟨#[]⟩ 0 ⟨#[]⟩ ⟨#[]⟩) := hD2'; have hR2 := hR1.kept hg2 (sne hRD); have hx2 := ext_st he1 hg2 hDw; obtain ⟨d0, d1, d2, d3, d4, d5, d6, d7⟩ := d8_cells hD2; clear hD2')
      | (refine wpList_st _ rfl 55 (.tmp 14) (.tmp 34) rfl w.heap.size 0 _ (.agg #[.string role, .string perm, .string owner, .int .i64 (5), .string (⟨#[]⟩), .int .i64 (0), .string (⟨#[]⟩), .string (⟨#[]⟩)]) (D8 role perm owner (5) (⟨#[]⟩) (0) (⟨#[]⟩) (⟨#[]⟩)) rfl hR2 rfl rfl Try.info55 (by simp [D8]) (by simp [D8, Value.oneCell']) ?_; intro w3 hR3' hg3; have hR3 : Blk w3 w.heap.size (D8 role perm owner (5) (⟨#[]⟩) (0) (⟨#[]⟩) (⟨#[]⟩)) := hR3'; obtain ⟨q0, q1, q2, q3, q4, q5, q6, q7⟩ := d8_cells hR3))
    refine bodyPost_ret (v := .agg #[.string role, .string perm, .string owner, .int .i64 (5), .string (⟨#[]⟩), .int .i64 (0), .string (⟨#[]⟩), .string (⟨#[]⟩)]) (by simp [results, Try.results14, go_sem, q0, q1, q2, q3, q4, q5, q6, q7]) rfl ⟨rfl, ext_st hx2 hg3 (Nat.le_refl _)⟩
  · have hidx := orgIndex_any (.slice ao os.length co) os ((w.alloc (.cells #[.string ⟨#[]⟩, .string ⟨#[]⟩, .string ⟨#[]⟩, .int .i64 0, .string ⟨#[]⟩, .int .i64 0, .string ⟨#[]⟩, .string ⟨#[]⟩] 55)).alloc (.cells #[.string role, .string perm, .string owner, .int .i64 4, .string ⟨#[]⟩, .int .i64 0, .string ⟨#[]⟩, .string ⟨#[]⟩] 55)) (ho.ext he1) hSm.no
    cases hp : idxTo (os.map Org.id) (os.map Org.id).length owner with
    | none =>
      obtain ⟨rfl, rfl, rfl, rfl, rfl⟩ := hN.out e2 hp
      unfold MdPost
      go_enter Try.func14, Try.ntmps14
      go_wp2_with (first
        | (go_at_call 16; refine hidx.mono ?_; rintro e w2 ⟨bm, rfl, hm', hx2⟩; have hm : SM w2 3 bm os.length (posF (os.map Org.id) (os.map Org.id).length) := (by rw [List.length_map]; exact hm'); have hlk := hm.nopos hoo hp; have hR2 := hR1.ext hx2; have hD2 := hD1.ext hx2; have he2 := he1.trans hx2; obtain ⟨d0, d1, d2, d3, d4, d5, d6, d7⟩ := d8_cells hD2; clear hm')
        | (refine wpList_st _ rfl 55 (.tmp 14) (.tmp 45) rfl w.heap.size 0 _ (.agg #[.string role, .string perm, .string owner, .int .i64 (4), .string (⟨#[]⟩), .int .i64 (0), .string (⟨#[]⟩), .string (⟨#[]⟩)]) (D8 role perm owner (4) (⟨#[]⟩) (0) (⟨#[]⟩) (⟨#[]⟩)) rfl hR2 rfl rfl Try.info55 (by simp [D8]) (by simp [D8, Value.oneCell']) ?_; intro w3 hR3' hg3; have hR3 : Blk w3 w.heap.size (D8 role perm owner (4) (⟨#[]⟩) (0) (⟨#[]⟩) (⟨#[]⟩)) := hR3'; obtain ⟨q0, q1, q2, q3, q4, q5, q6, q7⟩ := d8_cells hR3))
      refine bodyPost_ret (v := .agg #[.string role, .string perm, .string owner, .int .i64 (4), .string (⟨#[]⟩), .int .i64 (0), .string (⟨#[]⟩), .string (⟨#[]⟩)]) (by simp [results, Try.results14, go_sem, q0, q1, q2, q3, q4, q5, q6, q7]) rfl ⟨rfl, ext_st he2 hg3 (Nat.le_refl _)⟩
    | some p =>
      have hpl : p < os.length := by have := (idx_some _ _ _ hp).2; rwa [List.length_map] at this
      have hin : org ∈ os.map Org.id := by rw [← HC.out.2.2]; exact (hv.out.rorg r0 (List.mem_of_getElem? HC.out.1)).1
      have htl : posD (os.map Org.id) org < os.length := by have := posD_lt hin; rwa [List.length_map] at this
      have HP : Hid (idxTo (os.map Org.id) (os.map Org.id).length owner = some p) := hp
      have hri := fun W2 (h2 : Ext w W2) => roleIndex_any (.slice ar rs.length cr) rs role W2 (hr.ext h2) hSm.nr
      have hng := hSm.ng r0 (List.mem_of_getElem? HC.out.1)
      have horg : Hid (r0.org = org) := HC.out.2.2
      clear hp
      go_enter Try.func14, Try.ntmps14
      repeat (first
        | (go_at_call 16; refine hidx.mono ?_; rintro e w2 ⟨bm, rfl, hm', hx2⟩; have hm : SM w2 3 bm os.length (posF (os.map Org.id) (os.map Org.id).length) := (by rw [List.length_map]; exact hm'); have hlk := hm.pos hoo HP.out; have he2 := he1.trans hx2; clear hm')
        | (go_at_call 17; refine (hri w2 he2).mono ?_; rintro e w' ⟨z, ⟨rfl, hz⟩ | ⟨k1, r1, rfl, hk1, hid1⟩, rfl, rfl⟩; (exact absurd HC.out.2.1 (hz r0 (List.mem_of_getElem? HC.out.1))); (obtain rfl := role_one hv.out.rid.1 hk1 hid1 HC.out.1 HC.out.2.1; obtain ⟨rb, ro, rfl, z0, z1, z2, z3, ok⟩ := (hr.ext he2).at hk1; have hk1l := (List.getElem?_eq_some_iff.1 hk1).1; have hgv := ok.2.2.2; obtain ⟨ga, gc, hgve, hgc⟩ := hgv.shape; have z3' := z3; rw [hgve] at z3'; have hgr := grantOf_any r1 r1.id r1.name r1.org perm w2 hgv hng; rw [hgve] at hgr; have HK1 : Hid (rs[k1]? = some r1) := hk1; clear hk1 hid1 z3 hgve))
        | (go_at_call 18; refine hgr.mono ?_; rintro e w3 ⟨⟨g1, hg1, hn1, rfl⟩ | ⟨hno, rfl⟩, hx3⟩; (have he3 := he2.trans hx3; obtain ⟨own, hown', hA'⟩ := hG.out e2 p HP.out g1 hg1 hn1; have hown : Hid (OwnOk (parL os) (posD (os.map Org.id) org) g1.scope own) := hown'; have hA : Hid (AnsR os ss an perm org p g1.scope own b g sc sh st) := hA'; clear hg1 hn1 hown' hA'))
        | (exact md_10 os rs us ss an ao _ ash aa co cr csh ca p k1 r1 g1.scope own org w.heap.size (w.heap.size + 1) role perm owner b g sc sh st w w3 ho hr hs ha hSm hv HK1 horg hpl htl he3 (hR1.ext (hx2.trans hx3)) (hD1.ext (hx2.trans hx3)) (Nat.le_refl _) hDw hRD hA bm (hm.ext hx3) hown hoorg)
        | (obtain ⟨rfl, rfl, rfl, rfl, rfl⟩ := hU.out e2 hno; have hD3 := hD1.ext (hx2.trans hx3); have hR3 := hR1.ext (hx2.trans hx3); have he3 := he2.trans hx3; obtain ⟨d0, d1, d2, d3, d4, d5, d6, d7⟩ := d8_cells hD3; clear hno hU hG; unfold MdPost; go_wp2_with (refine wpList_st _ rfl 55 (.tmp 14) (.tmp 63) rfl w.heap.size 0 _ (.agg #[.string role, .string perm, .string owner, .int .i64 (4), .string (⟨#[]⟩), .int .i64 (0), .string (⟨#[]⟩), .string (⟨#[]⟩)]) (D8 role perm owner (4) (⟨#[]⟩) (0) (⟨#[]⟩) (⟨#[]⟩)) rfl hR3 rfl rfl Try.info55 (by simp [D8]) (by simp [D8, Value.oneCell']) ?_; intro w4 hR4' hg4; have hR4 : Blk w4 w.heap.size (D8 role perm owner (4) (⟨#[]⟩) (0) (⟨#[]⟩) (⟨#[]⟩)) := hR4'; obtain ⟨q0, q1, q2, q3, q4, q5, q6, q7⟩ := d8_cells hR4); refine bodyPost_ret (v := .agg #[.string role, .string perm, .string owner, .int .i64 (4), .string (⟨#[]⟩), .int .i64 (0), .string (⟨#[]⟩), .string (⟨#[]⟩)]) (by simp [results, Try.results14, go_sem, q0, q1, q2, q3, q4, q5, q6, q7]) rfl ⟨rfl, ext_st he3 hg4 (Nat.le_refl _)⟩)
        | go_values | go_skip | go_guarded | go_step | go_upon | (simp only [Int.not_lt, Int.not_le] at *; go_simp))

end Go.Proofs.Qxb6609292a
