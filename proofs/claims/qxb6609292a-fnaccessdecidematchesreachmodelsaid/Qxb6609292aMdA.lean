/-
  THE WALK of modelDecide for seat b6609292a: its end.
-/
import Derived.Test.Qxb6609292aAnsP
import Derived.Test.Qxb6609292aBfsW
import Derived.Test.Qxb6609292aBrings
import Derived.Test.Qxb6609292aTree1
set_option linter.unusedVariables false
set_option linter.unusedSimpArgs false
namespace Go.Proofs.Qxb6609292a
open Go.RowKit Go.Maps

def MdPost (role perm owner : ByteArray) (b : Int) (g : ByteArray) (sc : Int) (sh st : ByteArray) (w : World) : Ending → World → Prop := fun e w' =>
  e = .returned (.agg #[.string role, .string perm, .string owner, .int .i64 b, .string g, .int .i64 sc, .string sh, .string st]) ∧ Ext w w'
theorem Try.info53m : (Try.prog.info? 53).map (·.size) = some 1 := by kernel_rfl
theorem Try.info9m : (Try.prog.info? 9).map (·.size) = some 1 := by kernel_rfl
section
variable {os : List Org} {ss : List Share} {an : List ByteArray} {perm org : ByteArray} {p : Nat} {scope : Int} {own : List Nat} {b : Int} {g : ByteArray} {sc : Int} {sh st : ByteArray}
theorem ans_reach (h : AnsR os ss an perm org p scope own b g sc sh st) (hr : Reaches (parL os) (posD (os.map Org.id) org) scope p) : b = 1 ∧ g = org ∧ sc = scope ∧ sh = E0 ∧ st = E0 := by
  rcases h with ⟨_, h⟩ | ⟨h, _⟩
  · exact h
  · exact absurd hr h
theorem ans_best (h : AnsR os ss an perm org p scope own b g sc sh st) (hr : ¬ Reaches (parL os) (posD (os.map Org.id) org) scope p) {t : Nat} {x : Share} (hb : BestTo (parL os) (os.map Org.id) (posD (os.map Org.id) org) scope p perm ss own ss.length t) (hx : ss[t]? = some x) : b = 2 ∧ g = E0 ∧ sc = 0 ∧ sh = x.id ∧ st = x.dest := by
  rcases h with ⟨h, _⟩ | ⟨_, z, hz, h⟩
  · exact absurd h hr
  · have e := best_one hz hb
    rcases h with ⟨t', x', h1, h2, h3⟩ | ⟨h1, _⟩ | ⟨h1, _⟩
    · have : t' = t := Int.ofNat.inj (h1.symm.trans e)
      subst this
      rw [hx] at h2; cases h2
      exact h3
    · omega
    · omega
theorem ans_anc (h : AnsR os ss an perm org p scope own b g sc sh st) (hr : ¬ Reaches (parL os) (posD (os.map Org.id) org) scope p) (hb : BestTo (parL os) (os.map Org.id) (posD (os.map Org.id) org) scope p perm ss own ss.length (-1)) (h1 : perm ∈ an) (h2 : Above (parL os) p (posD (os.map Org.id) org)) : b = 3 ∧ g = org ∧ sc = scope ∧ sh = E0 ∧ st = E0 := by
  rcases h with ⟨h, _⟩ | ⟨_, z, hz, h⟩
  · exact absurd h hr
  · have e := best_one hz hb
    rcases h with ⟨t', x', h1, _⟩ | ⟨_, _, _, h⟩ | ⟨_, h, _⟩
    · omega
    · exact h
    · exact absurd ⟨h1, h2⟩ h
theorem ans_none (h : AnsR os ss an perm org p scope own b g sc sh st) (hr : ¬ Reaches (parL os) (posD (os.map Org.id) org) scope p) (hb : BestTo (parL os) (os.map Org.id) (posD (os.map Org.id) org) scope p perm ss own ss.length (-1)) (h1 : ¬ (perm ∈ an ∧ Above (parL os) p (posD (os.map Org.id) org))) : b = 4 ∧ g = E0 ∧ sc = 0 ∧ sh = E0 ∧ st = E0 := by
  rcases h with ⟨h, _⟩ | ⟨_, z, hz, h⟩
  · exact absurd h hr
  · have e := best_one hz hb
    rcases h with ⟨t', x', h1, _⟩ | ⟨_, h2, h3, h⟩ | ⟨_, _, h⟩
    · omega
    · exact absurd ⟨h2, h3⟩ h1
    · exact h
end
set_option maxRecDepth 1000000 in
set_option maxHeartbeats 1600000 in
theorem md_17 {x0 x1 x2 x3 x4 x5 x6 x7 x8 x9 x10 x11 x12 x13 x16 x17 x18 x19 x20 x21 x22 x23 x24 x25 x26 x27 x28 x29 x30 x31 x32 x33 x34 x35 x36 x37 x38 x39 x40 x41 x42 x43 x44 x45 x46 x47 x48 x49 x50 x51 x52 x53 x54 x55 x56 x57 x58 x59 x60 x61 x62 x63 x64 x65 x66 x67 x68 x69 x70 x71 x72 x73 x74 x75 x76 x77 x78 x79 x80 x81 x82 x83 x84 x85 x86 x87 x88 x89 x90 x91 x92 x93 x94 x95 x96 x97 x98 x99 x100 x101 x102 x103 x104 x105 x106 x107 x108 x109 x110 x111 x112 x113 x114 x115 x116 x117 x118 x119 x120 x121 x122 x123 x124 x125 x126 x127 x128 x129 x130 x131 x132 x133 x134 x135 x136 x137 x138 x139 x140 x141 x142 x143 x144 x145 x146 x147 x148 x149 x150 x151 x152 x153 x154 x155 x156 x157 x158 x159 x160 x161 x162 x163 x164 x165 x166 x167 x168 x169 x170 x171 x172 x173 x174 x175 x176 x177 x178 : Value} (R D : Nat) (role perm owner : ByteArray) (b : Int) (g : ByteArray) (sc : Int) (sh st : ByteArray) (w wz : World) (hex : Ext w wz)
    (hR : Blk wz R (D8 ⟨#[]⟩ ⟨#[]⟩ ⟨#[]⟩ 0 ⟨#[]⟩ 0 ⟨#[]⟩ ⟨#[]⟩)) (hRw : w.heap.size ≤ R) (hD : Blk wz D (D8 role perm owner b g sc sh st)) :
    Code.wp Try.prog (dropSeq 17 (Try.f14.body.getD .skip)) (bodyPost Try.prog Try.f14 (MdPost role perm owner b g sc sh st w)) ⟨#[x0, x1, x2, x3, x4, x5, x6, x7, x8, x9, x10, x11, x12, x13, .pointer (some ⟨R, 0, none⟩), .pointer (some ⟨D, 0, none⟩), x16, x17, x18, x19, x20, x21, x22, x23, x24, x25, x26, x27, x28, x29, x30, x31, x32, x33, x34, x35, x36, x37, x38, x39, x40, x41, x42, x43, x44, x45, x46, x47, x48, x49, x50, x51, x52, x53, x54, x55, x56, x57, x58, x59, x60, x61, x62, x63, x64, x65, x66, x67, x68, x69, x70, x71, x72, x73, x74, x75, x76, x77, x78, x79, x80, x81, x82, x83, x84, x85, x86, x87, x88, x89, x90, x91, x92, x93, x94, x95, x96, x97, x98, x99, x100, x101, x102, x103, x104, x105, x106, x107, x108, x109, x110, x111, x112, x113, x114, x115, x116, x117, x118, x119, x120, x121, x122, x123, x124, x125, x126, x127, x128, x129, x130, x131, x132, x133, x134, x135, x136, x137, x138, x139, x140, x141, x142, x143, x144, x145, x146, x147, x148, x149, x150, x151, x152, x153, x154, x155, x156, x157, x158, x159, x160, x161, x162, x163, x164, x165, x166, x167, x168, x169, x170, x171, x172, x173, x174, x175, x176, x177, x178], []⟩ wz := by
  conv => arg 2; whnf
  unfold MdPost
  obtain ⟨d0, d1, d2, d3, d4, d5, d6, d7⟩ := d8_cells hD
  go_wp2_with (refine wpList_st _ rfl 55 (.tmp 14) (.tmp 178) rfl R 0 _ (.agg #[.string role, .string perm, .string owner, .int .i64 (b), .string (g), .int .i64 (sc), .string (sh), .string (st)]) (D8 role perm owner (b) (g) (sc) (sh) (st)) rfl hR rfl rfl Try.info55 (by simp [D8]) (by simp [D8, Value.oneCell']) ?_; intro w2 hR2' hg2; have hR2 : Blk w2 R (D8 role perm owner (b) (g) (sc) (sh) (st)) := hR2'; obtain ⟨q0, q1, q2, q3, q4, q5, q6, q7⟩ := d8_cells hR2)
  refine bodyPost_ret (v := .agg #[.string role, .string perm, .string owner, .int .i64 (b), .string (g), .int .i64 (sc), .string (sh), .string (st)]) (by simp [results, Try.results14, go_sem, q0, q1, q2, q3, q4, q5, q6, q7]) rfl ⟨rfl, ext_st hex hg2 hRw⟩
set_option maxRecDepth 1000000 in
set_option maxHeartbeats 3200000 in
theorem md_16 {x0 x2 x4 x6 x7 x8 x9 x10 x11 x12 x13 x16 x18 x21 x24 x25 x26 x27 x28 x29 x30 x31 x32 x33 x34 x35 x36 x37 x38 x39 x40 x41 x42 x43 x44 x45 x46 x47 x48 x49 x50 x51 x52 x53 x54 x55 x56 x57 x58 x59 x60 x61 x62 x63 x64 x65 x66 x67 x68 x69 x70 x71 x72 x73 x74 x75 x76 x77 x78 x79 x80 x81 x82 x83 x84 x85 x86 x87 x88 x89 x90 x91 x92 x93 x94 x95 x96 x97 x98 x99 x100 x101 x102 x103 x104 x105 x106 x107 x108 x109 x110 x111 x112 x113 x114 x115 x116 x117 x118 x119 x120 x121 x122 x123 x124 x125 x126 x127 x128 x129 x130 x131 x132 x133 x134 x135 x136 x137 x138 x139 x140 x141 x142 x143 x144 x145 x146 x147 x148 x149 x150 x151 x152 x153 x154 x155 x156 x157 x158 x159 x160 x161 x162 x163 x164 x165 x166 x167 x168 x169 x170 x171 x172 x173 x174 x175 x176 x177 x178 : Value} (os : List Org) (rs : List Role) (us : List User) (ss : List Share) (an : List ByteArray) (ar aa : Option Addr) (cr ca gp p k0 : Nat) (r0 : Role) (scope : Int) (own : List Nat) (org : ByteArray) (R D : Nat) (role perm owner : ByteArray) (b : Int) (g : ByteArray) (sc : Int) (sh st : ByteArray) (w wz : World)
    (hr : RolesAt w (.slice ar rs.length cr) rs) (ha : StrsAt w (.slice aa an.length ca) an) (hSm : Small os rs us ss an) (hv : Hid (Valid os rs us ss)) (HK : Hid (rs[k0]? = some r0)) (horg : Hid (r0.org = org)) (hpl : p < os.length) (htl : posD (os.map Org.id) org < os.length)
    (hex : Ext w wz) (hP : Blk wz gp ((parL os).map iI)) (hR : Blk wz R (D8 ⟨#[]⟩ ⟨#[]⟩ ⟨#[]⟩ 0 ⟨#[]⟩ 0 ⟨#[]⟩ ⟨#[]⟩)) (hD : Blk wz D (D8 role perm owner 4 ⟨#[]⟩ 0 ⟨#[]⟩ ⟨#[]⟩)) (hRw : w.heap.size ≤ R) (hDw : w.heap.size ≤ D) (hRD : R ≠ D) (hA : Hid (AnsR os ss an perm org p scope own b g sc sh st)) (hnr : Hid (¬ Reaches (parL os) (posD (os.map Org.id) org) scope p)) (hB : Hid (BestTo (parL os) (os.map Org.id) (posD (os.map Org.id) org) scope p perm ss own ss.length (-1))) :
    Code.wp Try.prog (dropSeq 16 (Try.f14.body.getD .skip)) (bodyPost Try.prog Try.f14 (MdPost role perm owner b g sc sh st w)) ⟨#[x0, .slice ar rs.length cr, x2, .slice aa an.length ca, x4, .string perm, x6, x7, x8, x9, x10, x11, x12, x13, .pointer (some ⟨R, 0, none⟩), .pointer (some ⟨D, 0, none⟩), x16, .int .i64 p, x18, .int .i64 (k0 : Int), .int .i64 scope, x21, .slice (some ⟨gp, 0, none⟩) os.length os.length, .int .i64 (posD (os.map Org.id) org), x24, x25, x26, x27, x28, x29, x30, x31, x32, x33, x34, x35, x36, x37, x38, x39, x40, x41, x42, x43, x44, x45, x46, x47, x48, x49, x50, x51, x52, x53, x54, x55, x56, x57, x58, x59, x60, x61, x62, x63, x64, x65, x66, x67, x68, x69, x70, x71, x72, x73, x74, x75, x76, x77, x78, x79, x80, x81, x82, x83, x84, x85, x86, x87, x88, x89, x90, x91, x92, x93, x94, x95, x96, x97, x98, x99, x100, x101, x102, x103, x104, x105, x106, x107, x108, x109, x110, x111, x112, x113, x114, x115, x116, x117, x118, x119, x120, x121, x122, x123, x124, x125, x126, x127, x128, x129, x130, x131, x132, x133, x134, x135, x136, x137, x138, x139, x140, x141, x142, x143, x144, x145, x146, x147, x148, x149, x150, x151, x152, x153, x154, x155, x156, x157, x158, x159, x160, x161, x162, x163, x164, x165, x166, x167, x168, x169, x170, x171, x172, x173, x174, x175, x176, x177, x178], []⟩ wz := by
  conv => arg 2; whnf
  obtain ⟨rank, hrk, _⟩ := ranked_of_ends (P := parL os) (by rw [parL_len]; exact hv.out.ends)
  have hPL := parL_len os
  have c21 := inList_any (.slice aa an.length ca) an perm wz (ha.ext hex) hSm.na
  have c20 := properAncestor_any (parL os) rank gp p (posD (os.map Org.id) org) wz hP (rng_parL os) hrk (by omega)
  rw [hPL] at c20
  have hk0l := (List.getElem?_eq_some_iff.1 HK.out).1
  by_cases hpn : perm ∈ an
  · by_cases hab : Above (parL os) p (posD (os.map Org.id) org)
    · obtain ⟨rfl, rfl, rfl, rfl, rfl⟩ := ans_anc hA.out hnr.out hB.out hpn hab
      obtain ⟨rb, ro, rfl, z0, z1, z2, z3, ok⟩ := (hr.ext hex).at HK.out
      have c21' := c21.mono (R' := fun e w' => e = .returned (.bool true) ∧ wz = w') (by rintro e w' ⟨q, hq, rfl, rfl⟩; rw [hq.2 hpn]; exact ⟨rfl, rfl⟩)
      have c20' := c20.mono (R' := fun e w' => e = .returned (.bool true) ∧ wz = w') (by rintro e w' ⟨q, hq, rfl, rfl⟩; rw [hq.2 hab]; exact ⟨rfl, rfl⟩)
      rw [horg.out] at z2
      clear c20 c21 z0 z1 z3 ok hpn hab
      unfold MdPost
      go_wp2_with (first
        | (go_at_call 21; refine c21'.mono ?_; rintro e w' ⟨rfl, rfl⟩)
        | (go_at_call 20; refine c20'.mono ?_; rintro e w' ⟨rfl, rfl⟩)
        | (refine wpList_st1 _ rfl 52 (.tmp 169) _ rfl D 3 _ (.int .i64 3) rfl hD rfl Try.info52 (by simp [D8]) rfl ?_; intro w5 hD5' hg5; have hD5 : Blk w5 D (D8 role perm owner 3 ⟨#[]⟩ 0 ⟨#[]⟩ ⟨#[]⟩) := hD5'; obtain ⟨_, _, hrb, z0, z1, z2, z3, ok⟩ := (hr.ext (ext_st hex hg5 hDw)).at HK.out; cases hrb; rw [horg.out] at z2; clear hD5' z0 z1 z3 ok)
        | (refine wpList_st1 _ rfl 9 (.tmp 175) _ rfl D 4 _ (.string g) rfl hD5 rfl Try.info9m (by simp [D8]) rfl ?_; intro w6 hD6' hg6; have hD6 : Blk w6 D (D8 role perm owner 3 g 0 ⟨#[]⟩ ⟨#[]⟩) := hD6'; clear hD6')
        | (refine wpList_st1 _ rfl 53 (.tmp 177) _ rfl D 5 _ (.int .i64 sc) rfl hD6 rfl Try.info53m (by simp [D8]) rfl ?_; intro w7 hD7' hg7; have hD7 : Blk w7 D (D8 role perm owner 3 g sc ⟨#[]⟩ ⟨#[]⟩) := hD7'; have hR7 := ((hR.kept hg5 (sne hRD)).kept hg6 (sne hRD)).kept hg7 (sne hRD); have hx7 := ext_st (ext_st (ext_st hex hg5 hDw) hg6 hDw) hg7 hDw; obtain ⟨d0, d1, d2, d3, d4, d5, d6, d7⟩ := d8_cells hD7; clear hD7')
        | (refine wpList_st _ rfl 55 (.tmp 14) (.tmp 178) rfl R 0 _ (.agg #[.string role, .string perm, .string owner, .int .i64 (3), .string (g), .int .i64 (sc), .string (⟨#[]⟩), .string (⟨#[]⟩)]) (D8 role perm owner (3) (g) (sc) (⟨#[]⟩) (⟨#[]⟩)) rfl hR7 rfl rfl Try.info55 (by simp [D8]) (by simp [D8, Value.oneCell']) ?_; intro w8 hR8' hg8; have hR8 : Blk w8 R (D8 role perm owner (3) (g) (sc) (⟨#[]⟩) (⟨#[]⟩)) := hR8'; obtain ⟨q0, q1, q2, q3, q4, q5, q6, q7⟩ := d8_cells hR8))
      refine bodyPost_ret (v := .agg #[.string role, .string perm, .string owner, .int .i64 (3), .string (g), .int .i64 (sc), .string (⟨#[]⟩), .string (⟨#[]⟩)]) (by simp [results, Try.results14, go_sem, q0, q1, q2, q3, q4, q5, q6, q7]) rfl ⟨rfl, ext_st hx7 hg8 hRw⟩
    · obtain ⟨rfl, rfl, rfl, rfl, rfl⟩ := ans_none hA.out hnr.out hB.out (fun h => hab h.2)
      have c21' := c21.mono (R' := fun e w' => e = .returned (.bool true) ∧ wz = w') (by rintro e w' ⟨q, hq, rfl, rfl⟩; rw [hq.2 hpn]; exact ⟨rfl, rfl⟩)
      have c20' := c20.mono (R' := fun e w' => e = .returned (.bool false) ∧ wz = w') (by rintro e w' ⟨q, hq, rfl, rfl⟩; rw [show q = false from Bool.eq_false_iff.2 (fun h => hab (hq.1 h))]; exact ⟨rfl, rfl⟩)
      clear c20 c21 hpn hab
      repeat (first
        | (go_at_call 21; refine c21'.mono ?_; rintro e w' ⟨rfl, rfl⟩)
        | (go_at_call 20; refine c20'.mono ?_; rintro e w' ⟨rfl, rfl⟩)
        | (exact md_17 R D role perm owner 4 ⟨#[]⟩ 0 ⟨#[]⟩ ⟨#[]⟩ w wz hex hR hRw hD)
        | go_values | go_skip | go_guarded | go_step | go_upon | (simp only [Int.not_lt, Int.not_le] at *; go_simp))
  · obtain ⟨rfl, rfl, rfl, rfl, rfl⟩ := ans_none hA.out hnr.out hB.out (fun h => hpn h.1)
    have c21' := c21.mono (R' := fun e w' => e = .returned (.bool false) ∧ wz = w') (by rintro e w' ⟨q, hq, rfl, rfl⟩; rw [show q = false from Bool.eq_false_iff.2 (fun h => hpn (hq.1 h))]; exact ⟨rfl, rfl⟩)
    clear c20 c21 hpn
    repeat (first
      | (go_at_call 21; refine c21'.mono ?_; rintro e w' ⟨rfl, rfl⟩)
      | (exact md_17 R D role perm owner 4 ⟨#[]⟩ 0 ⟨#[]⟩ ⟨#[]⟩ w wz hex hR hRw hD)
      | go_values | go_skip | go_guarded | go_step | go_upon | (simp only [Int.not_lt, Int.not_le] at *; go_simp))

end Go.Proofs.Qxb6609292a
