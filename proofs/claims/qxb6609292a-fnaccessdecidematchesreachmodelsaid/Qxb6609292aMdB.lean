/-
  THE WALK of modelDecide for seat b6609292a: the shares.
-/
import Derived.Test.Qxb6609292aMdA
set_option linter.unusedVariables false
set_option linter.unusedSimpArgs false
namespace Go.Proofs.Qxb6609292a
open Go.RowKit Go.Maps

set_option maxRecDepth 1000000 in
set_option maxHeartbeats 3200000 in
theorem md_15 {x0 x4 x6 x7 x8 x9 x10 x11 x12 x13 x16 x18 x21 x25 x26 x27 x28 x29 x30 x31 x32 x33 x34 x35 x36 x37 x38 x39 x40 x41 x42 x43 x44 x45 x46 x47 x48 x49 x50 x51 x52 x53 x54 x55 x56 x57 x58 x59 x60 x61 x62 x63 x64 x65 x66 x67 x68 x69 x70 x71 x72 x73 x74 x75 x76 x77 x78 x79 x80 x81 x82 x83 x84 x85 x86 x87 x88 x89 x90 x91 x92 x93 x94 x95 x96 x97 x98 x99 x100 x101 x102 x103 x104 x105 x106 x107 x108 x109 x110 x111 x112 x113 x114 x115 x116 x117 x118 x119 x120 x121 x122 x123 x124 x125 x126 x127 x128 x129 x130 x131 x132 x133 x134 x135 x136 x137 x138 x139 x140 x141 x142 x143 x144 x145 x146 x147 x148 x149 x150 x151 x152 x153 x154 x155 x156 x157 x158 x159 x160 x161 x162 x163 x164 x165 x166 x167 x168 x169 x170 x171 x172 x173 x174 x175 x176 x177 x178 : Value} (os : List Org) (rs : List Role) (us : List User) (ss : List Share) (an : List ByteArray) (ar ash aa : Option Addr) (cr csh ca gp p k0 : Nat) (r0 : Role) (scope : Int) (own : List Nat) (org : ByteArray) (R D : Nat) (role perm owner : ByteArray) (b : Int) (g : ByteArray) (sc : Int) (sh st : ByteArray) (w wz : World)
    (hr : RolesAt w (.slice ar rs.length cr) rs) (hs : SharesAt w (.slice ash ss.length csh) ss) (ha : StrsAt w (.slice aa an.length ca) an) (hSm : Small os rs us ss an) (hv : Hid (Valid os rs us ss)) (HK : Hid (rs[k0]? = some r0)) (horg : Hid (r0.org = org)) (hpl : p < os.length) (htl : posD (os.map Org.id) org < os.length)
    (hex : Ext w wz) (hP : Blk wz gp ((parL os).map iI)) (hR : Blk wz R (D8 ⟨#[]⟩ ⟨#[]⟩ ⟨#[]⟩ 0 ⟨#[]⟩ 0 ⟨#[]⟩ ⟨#[]⟩)) (hD : Blk wz D (D8 role perm owner 4 ⟨#[]⟩ 0 ⟨#[]⟩ ⟨#[]⟩)) (hRw : w.heap.size ≤ R) (hDw : w.heap.size ≤ D) (hRD : R ≠ D) (hA : Hid (AnsR os ss an perm org p scope own b g sc sh st)) (hnr : Hid (¬ Reaches (parL os) (posD (os.map Org.id) org) scope p)) (z : Int) (hB : Hid (BestTo (parL os) (os.map Org.id) (posD (os.map Org.id) org) scope p perm ss own ss.length z)) :
    Code.wp Try.prog (dropSeq 15 (Try.f14.body.getD .skip)) (bodyPost Try.prog Try.f14 (MdPost role perm owner b g sc sh st w)) ⟨#[x0, .slice ar rs.length cr, .slice ash ss.length csh, .slice aa an.length ca, x4, .string perm, x6, x7, x8, x9, x10, x11, x12, x13, .pointer (some ⟨R, 0, none⟩), .pointer (some ⟨D, 0, none⟩), x16, .int .i64 p, x18, .int .i64 (k0 : Int), .int .i64 scope, x21, .slice (some ⟨gp, 0, none⟩) os.length os.length, .int .i64 (posD (os.map Org.id) org), .int .i64 z, x25, x26, x27, x28, x29, x30, x31, x32, x33, x34, x35, x36, x37, x38, x39, x40, x41, x42, x43, x44, x45, x46, x47, x48, x49, x50, x51, x52, x53, x54, x55, x56, x57, x58, x59, x60, x61, x62, x63, x64, x65, x66, x67, x68, x69, x70, x71, x72, x73, x74, x75, x76, x77, x78, x79, x80, x81, x82, x83, x84, x85, x86, x87, x88, x89, x90, x91, x92, x93, x94, x95, x96, x97, x98, x99, x100, x101, x102, x103, x104, x105, x106, x107, x108, x109, x110, x111, x112, x113, x114, x115, x116, x117, x118, x119, x120, x121, x122, x123, x124, x125, x126, x127, x128, x129, x130, x131, x132, x133, x134, x135, x136, x137, x138, x139, x140, x141, x142, x143, x144, x145, x146, x147, x148, x149, x150, x151, x152, x153, x154, x155, x156, x157, x158, x159, x160, x161, x162, x163, x164, x165, x166, x167, x168, x169, x170, x171, x172, x173, x174, x175, x176, x177, x178], []⟩ wz := by
  conv => arg 2; whnf
  rcases best_cases hB.out with rfl | ⟨t, rfl⟩
  · repeat (first | (exact md_16 os rs us ss an ar aa cr ca gp p k0 r0 scope own org R D role perm owner b g sc sh st w wz hr ha hSm hv HK horg hpl htl hex hP hR hD hRw hDw hRD hA hnr hB) | go_values | go_skip | go_guarded | go_step | go_upon | (simp only [Int.not_lt, Int.not_le] at *; go_simp))
  · obtain ⟨x, hx, htl', _⟩ := best_some hB.out
    obtain ⟨rfl, rfl, rfl, rfl, rfl⟩ := ans_best hA.out hnr.out hB.out hx
    obtain ⟨sb, so, rfl, c0, c1, c2, c3, c4, ok⟩ := (hs.ext hex).at hx
    have HX : Hid (ss[t]? = some x) := hx
    clear c1 c3 c4 ok hx
    unfold MdPost
    go_wp2_with (first
      | (refine wpList_st1 _ rfl 52 (.tmp 146) _ rfl D 3 _ (.int .i64 2) rfl hD rfl Try.info52 (by simp [D8]) rfl ?_; intro w5 hD5' hg5; have hD5 : Blk w5 D (D8 role perm owner 2 ⟨#[]⟩ 0 ⟨#[]⟩ ⟨#[]⟩) := hD5'; have hx5 := ext_st hex hg5 hDw; obtain ⟨_, _, hrb, c0, c1, c2, c3, c4, ok⟩ := (hs.ext hx5).at HX.out; cases hrb; clear hD5' c1 c3 c4 ok)
      | (refine wpList_st1 _ rfl 9 (.tmp 152) _ rfl D 6 _ (.string x.id) rfl hD5 rfl Try.info9m (by simp [D8]) rfl ?_; intro w6 hD6' hg6; have hD6 : Blk w6 D (D8 role perm owner 2 ⟨#[]⟩ 0 x.id ⟨#[]⟩) := hD6'; have hx6 := ext_st hx5 hg6 hDw; obtain ⟨_, _, hrb, c0, c1, c2, c3, c4, ok⟩ := (hs.ext hx6).at HX.out; cases hrb; clear hD6' c1 c3 c4 ok)
      | (refine wpList_st1 _ rfl 9 (.tmp 158) _ rfl D 7 _ (.string x.dest) rfl hD6 rfl Try.info9m (by simp [D8]) rfl ?_; intro w7 hD7' hg7; have hD7 : Blk w7 D (D8 role perm owner 2 ⟨#[]⟩ 0 x.id x.dest) := hD7'; have hR7 := ((hR.kept hg5 (sne hRD)).kept hg6 (sne hRD)).kept hg7 (sne hRD); have hx7 := ext_st hx6 hg7 hDw; obtain ⟨d0, d1, d2, d3, d4, d5, d6, d7⟩ := d8_cells hD7; clear hD7')
      | (refine wpList_st _ rfl 55 (.tmp 14) (.tmp 159) rfl R 0 _ (.agg #[.string role, .string perm, .string owner, .int .i64 (2), .string (⟨#[]⟩), .int .i64 (0), .string (x.id), .string (x.dest)]) (D8 role perm owner (2) (⟨#[]⟩) (0) (x.id) (x.dest)) rfl hR7 rfl rfl Try.info55 (by simp [D8]) (by simp [D8, Value.oneCell']) ?_; intro w8 hR8' hg8; have hR8 : Blk w8 R (D8 role perm owner (2) (⟨#[]⟩) (0) (x.id) (x.dest)) := hR8'; obtain ⟨q0, q1, q2, q3, q4, q5, q6, q7⟩ := d8_cells hR8))
    refine bodyPost_ret (v := .agg #[.string role, .string perm, .string owner, .int .i64 (2), .string (⟨#[]⟩), .int .i64 (0), .string (x.id), .string (x.dest)]) (by simp [results, Try.results14, go_sem, q0, q1, q2, q3, q4, q5, q6, q7]) rfl ⟨rfl, ext_st hx7 hg8 hRw⟩
set_option maxRecDepth 1000000 in
set_option maxHeartbeats 6400000 in
theorem md_13 {x0 x4 x6 x7 x8 x9 x10 x11 x12 x13 x18 x21 x24 x25 x26 x27 x28 x29 x30 x31 x32 x33 x34 x35 x36 x37 x38 x39 x40 x41 x42 x43 x44 x45 x46 x47 x48 x49 x50 x51 x52 x53 x54 x55 x56 x57 x58 x59 x60 x61 x62 x63 x64 x65 x66 x67 x68 x69 x70 x71 x72 x73 x74 x75 x76 x77 x78 x79 x80 x81 x82 x83 x84 x85 x86 x87 x88 x89 x90 x91 x92 x93 x94 x95 x96 x97 x98 x99 x100 x101 x102 x103 x104 x105 x106 x107 x108 x109 x110 x111 x112 x113 x114 x115 x116 x117 x118 x119 x120 x121 x122 x123 x124 x125 x126 x127 x128 x129 x130 x131 x132 x133 x134 x135 x136 x137 x138 x139 x140 x141 x142 x143 x144 x145 x146 x147 x148 x149 x150 x151 x152 x153 x154 x155 x156 x157 x158 x159 x160 x161 x162 x163 x164 x165 x166 x167 x168 x169 x170 x171 x172 x173 x174 x175 x176 x177 x178 : Value} (os : List Org) (rs : List Role) (us : List User) (ss : List Share) (an : List ByteArray) (ar ash aa : Option Addr) (cr csh ca gp p k0 : Nat) (r0 : Role) (scope : Int) (own : List Nat) (org : ByteArray) (R D : Nat) (role perm owner : ByteArray) (b : Int) (g : ByteArray) (sc : Int) (sh st : ByteArray) (w wz : World)
    (hr : RolesAt w (.slice ar rs.length cr) rs) (hs : SharesAt w (.slice ash ss.length csh) ss) (ha : StrsAt w (.slice aa an.length ca) an) (hSm : Small os rs us ss an) (hv : Hid (Valid os rs us ss)) (HK : Hid (rs[k0]? = some r0)) (horg : Hid (r0.org = org)) (hpl : p < os.length) (htl : posD (os.map Org.id) org < os.length)
    (hex : Ext w wz) (hP : Blk wz gp ((parL os).map iI)) (hR : Blk wz R (D8 ⟨#[]⟩ ⟨#[]⟩ ⟨#[]⟩ 0 ⟨#[]⟩ 0 ⟨#[]⟩ ⟨#[]⟩)) (hD : Blk wz D (D8 role perm owner 4 ⟨#[]⟩ 0 ⟨#[]⟩ ⟨#[]⟩)) (hRw : w.heap.size ≤ R) (hDw : w.heap.size ≤ D) (hRD : R ≠ D) (hA : Hid (AnsR os ss an perm org p scope own b g sc sh st)) (hnr : Hid (¬ Reaches (parL os) (posD (os.map Org.id) org) scope p)) (bm : Nat) (hm : SM wz 3 bm os.length (posF (os.map Org.id) (os.map Org.id).length)) (hown : Hid (OwnOk (parL os) (posD (os.map Org.id) org) scope own)) :
    Code.wp Try.prog (dropSeq 13 (Try.f14.body.getD .skip)) (bodyPost Try.prog Try.f14 (MdPost role perm owner b g sc sh st w)) ⟨#[x0, .slice ar rs.length cr, .slice ash ss.length csh, .slice aa an.length ca, x4, .string perm, x6, x7, x8, x9, x10, x11, x12, x13, .pointer (some ⟨R, 0, none⟩), .pointer (some ⟨D, 0, none⟩), .map (some bm), .int .i64 p, x18, .int .i64 (k0 : Int), .int .i64 scope, x21, .slice (some ⟨gp, 0, none⟩) os.length os.length, .int .i64 (posD (os.map Org.id) org), x24, x25, x26, x27, x28, x29, x30, x31, x32, x33, x34, x35, x36, x37, x38, x39, x40, x41, x42, x43, x44, x45, x46, x47, x48, x49, x50, x51, x52, x53, x54, x55, x56, x57, x58, x59, x60, x61, x62, x63, x64, x65, x66, x67, x68, x69, x70, x71, x72, x73, x74, x75, x76, x77, x78, x79, x80, x81, x82, x83, x84, x85, x86, x87, x88, x89, x90, x91, x92, x93, x94, x95, x96, x97, x98, x99, x100, x101, x102, x103, x104, x105, x106, x107, x108, x109, x110, x111, x112, x113, x114, x115, x116, x117, x118, x119, x120, x121, x122, x123, x124, x125, x126, x127, x128, x129, x130, x131, x132, x133, x134, x135, x136, x137, x138, x139, x140, x141, x142, x143, x144, x145, x146, x147, x148, x149, x150, x151, x152, x153, x154, x155, x156, x157, x158, x159, x160, x161, x162, x163, x164, x165, x166, x167, x168, x169, x170, x171, x172, x173, x174, x175, x176, x177, x178], []⟩ wz := by
  conv => arg 2; whnf
  obtain ⟨rank, hrk, _⟩ := ranked_of_ends (P := parL os) (by rw [parL_len]; exact hv.out.ends)
  have hPL := parL_len os
  have hord := hown.out.bord (by omega)
  have hns := hSm.ns
  have c46 := fun x (hx : x < os.length) => reachesByGrant_any (parL os) rank gp (posD (os.map Org.id) org) x scope wz hP (rng_parL os) hrk (by omega)
  have c48 := fun u v (hu : u ∈ own) (hv : v ∈ own) => bfsCompare_any (parL os) rank own gp (posD (os.map Org.id) org) u v wz hP hrk hord hu hv (by rw [hPL]; exact hSm.no)
  rw [hPL] at c46 c48
  go_wp2_with fail
  go_loopw [24, 91] (fun bv iv wr => ∃ (k : Nat) (z : Int), bv = .int .i64 z ∧ iv = .int .i64 k ∧ k ≤ ss.length ∧ Hid (BestTo (parL os) (os.map Org.id) (posD (os.map Org.id) org) scope p perm ss own k z) ∧ wz = wr) (fun _ i _ => ss.length - (intOf i).toNat)
  case atStart => exact ⟨0, -1, rfl, rfl, Nat.zero_le _, best_zero, rfl⟩
  case round =>
    obtain ⟨k, z, rfl, rfl, hk, hB, rfl⟩ := hrel
    by_cases hlt : k < ss.length
    · obtain ⟨x, hx⟩ := get_at ss k hlt
      obtain ⟨sb, so, rfl, c0, c1, c2, c3, c4, ok⟩ := (hs.ext hex).at hx
      have hl1 := hm.posD ok.2.1
      have hl2 := hm.posD ok.2.2.1
      have hsr := hv.out.sref x (List.mem_of_getElem? hx)
      have hdl : posD (os.map Org.id) x.dest < os.length := by have := posD_lt hsr.2.1; rwa [List.length_map] at this
      have hpl := hSm.nsp x (List.mem_of_getElem? hx)
      have hst := ok.2.2.2.2
      obtain ⟨sa, sc', hsv, hsc⟩ := hst.shape
      rw [hsv] at c3 hst
      have HS : Hid (ss[k]? = some x) := hx
      have HN : ¬ Cand (parL os) (os.map Org.id) (posD (os.map Org.id) org) scope p perm x → Hid (BestTo (parL os) (os.map Org.id) (posD (os.map Org.id) org) scope p perm ss own (k + 1) z) := fun hc => best_skip hB.out HS.out hc
      clear hx hsv c0 c4 ok hsr
      have c47 := covers_any _ x.perms perm wz hst hpl
      have c46' := c46 _ hdl
      clear c46
      rcases ne_test (posD (os.map Org.id) x.owner : Int) (p : Int) with ⟨e1, e2⟩ | ⟨e1, e2⟩
      · by_cases h2 : (x.perms = [] ∨ perm ∈ x.perms)
        · have k47 := c47.mono (R' := fun e w' => e = .returned (.bool true) ∧ wz = w') (by rintro e w' ⟨q, hq, rfl, rfl⟩; rw [hq.2 h2]; exact ⟨rfl, rfl⟩)
          by_cases h3 : Reaches (parL os) (posD (os.map Org.id) org) scope (posD (os.map Org.id) x.dest)
          · have k46 := c46'.mono (R' := fun e w' => e = .returned (.bool true) ∧ wz = w') (by rintro e w' ⟨q, hq, rfl, rfl⟩; rw [hq.2 h3]; exact ⟨rfl, rfl⟩)
            have hcd : Hid (Cand (parL os) (os.map Org.id) (posD (os.map Org.id) org) scope p perm x) := ⟨Int.ofNat.inj e2.out, h2, h3⟩
            rcases best_cases hB.out with rfl | ⟨t, rfl⟩
            · have hne : Hid (BestTo (parL os) (os.map Org.id) (posD (os.map Org.id) org) scope p perm ss own (k + 1) k) := best_first hB.out HS.out hcd.out
              clear c46' c47 c48 h2 h3 HN hB
              go_wp2_with (first
                | (go_at_call 47; refine k47.mono ?_; rintro e w' ⟨rfl, rfl⟩)
                | (go_at_call 46; refine k46.mono ?_; rintro e w' ⟨rfl, rfl⟩))
              go_roundw
              case rel => exact ⟨k + 1, k, rfl, by go_num, by omega, hne, by trivial⟩
              case measure => simp [intOf]; omega
            · obtain ⟨y, hy, htk, hcy⟩ := best_some hB.out
              obtain ⟨_, _, hrb, y0, y1, y2, y3, y4, oky⟩ := (hs.ext hex).at hy
              cases hrb
              have hl3 := hm.posD oky.2.2.1
              have cc := c48 _ _ ((hown.out.reach _).1 h3) ((hown.out.reach _).1 hcy.2.2)
              have HY : Hid (ss[t]? = some y) := hy
              have htl2 : t < ss.length := by omega
              clear hy hcy y0 y1 y3 y4 oky
              by_cases hid : own.idxOf (posD (os.map Org.id) x.dest) < own.idxOf (posD (os.map Org.id) y.dest)
              · have hne : Hid (BestTo (parL os) (os.map Org.id) (posD (os.map Org.id) org) scope p perm ss own (k + 1) k) := best_new hB.out HS.out hcd.out HY.out hid
                have k48 := cc.mono (R' := fun e w' => ∃ z : Int, z < 0 ∧ e = .returned (.int .i64 z) ∧ wz = w') (by rintro e w' ⟨z, hz, rfl, rfl⟩; exact ⟨z, hz.2 hid, rfl, rfl⟩)
                clear c46' c47 c48 cc h2 h3 HN hB hid
                go_wp2_with (first
                  | (go_at_call 47; refine k47.mono ?_; rintro e w' ⟨rfl, rfl⟩)
                  | (go_at_call 46; refine k46.mono ?_; rintro e w' ⟨rfl, rfl⟩)
                  | (go_at_call 48; refine k48.mono ?_; rintro e w' ⟨zc, hzc, rfl, rfl⟩))
                go_roundw
                case rel => exact ⟨k + 1, k, rfl, by go_num, by omega, hne, by trivial⟩
                case measure => simp [intOf]; omega
              · have hne : Hid (BestTo (parL os) (os.map Org.id) (posD (os.map Org.id) org) scope p perm ss own (k + 1) t) := best_keep hB.out HS.out HY.out hid
                have k48 := cc.mono (R' := fun e w' => ∃ z : Int, ¬ z < 0 ∧ e = .returned (.int .i64 z) ∧ wz = w') (by rintro e w' ⟨z, hz, rfl, rfl⟩; exact ⟨z, fun h => hid (hz.1 h), rfl, rfl⟩)
                clear c46' c47 c48 cc h2 h3 HN hB hid
                go_wp2_with (first
                  | (go_at_call 47; refine k47.mono ?_; rintro e w' ⟨rfl, rfl⟩)
                  | (go_at_call 46; refine k46.mono ?_; rintro e w' ⟨rfl, rfl⟩)
                  | (go_at_call 48; refine k48.mono ?_; rintro e w' ⟨zc, hzc, rfl, rfl⟩))
                go_roundw
                case rel => exact ⟨k + 1, t, rfl, by go_num, by omega, hne, by trivial⟩
                case measure => simp [intOf]; omega
          · have hne := HN (fun hb => h3 hb.2.2)
            have k46 := c46'.mono (R' := fun e w' => e = .returned (.bool false) ∧ wz = w') (by rintro e w' ⟨q, hq, rfl, rfl⟩; rw [show q = false from Bool.eq_false_iff.2 (fun h => h3 (hq.1 h))]; exact ⟨rfl, rfl⟩)
            clear c46' c47 c48 h2 h3 HN hB
            go_wp2_with (first
              | (go_at_call 47; refine k47.mono ?_; rintro e w' ⟨rfl, rfl⟩)
              | (go_at_call 46; refine k46.mono ?_; rintro e w' ⟨rfl, rfl⟩))
            go_roundw
            case rel => exact ⟨k + 1, z, rfl, by go_num, by omega, hne, by trivial⟩
            case measure => simp [intOf]; omega

        · have hne := HN (fun hb => h2 hb.2.1)
          have k47 := c47.mono (R' := fun e w' => e = .returned (.bool false) ∧ wz = w') (by rintro e w' ⟨q, hq, rfl, rfl⟩; rw [show q = false from Bool.eq_false_iff.2 (fun h => h2 (hq.1 h))]; exact ⟨rfl, rfl⟩)
          clear c46' c47 c48 h2 HN hB
          go_wp2_with (go_at_call 47; refine k47.mono ?_; rintro e w' ⟨rfl, rfl⟩)
          go_roundw
          case rel => exact ⟨k + 1, z, rfl, by go_num, by omega, hne, by trivial⟩
          case measure => simp [intOf]; omega

      · have hne := HN (fun hb => e2 (by rw [hb.1]))
        clear c46' c47 c48 HN hB
        go_wp2_with fail
        go_roundw
        case rel => exact ⟨k + 1, z, rfl, by go_num, by omega, hne, by trivial⟩
        case measure => simp [intOf]; omega

    · obtain rfl : k = ss.length := by omega
      repeat (first | (exact md_15 os rs us ss an ar ash aa cr csh ca gp p k0 r0 scope own org R D role perm owner b g sc sh st w wz hr hs ha hSm hv HK horg hpl htl hex hP hR hD hRw hDw hRD hA hnr z hB) | go_values | go_skip | go_guarded | go_step | go_upon | (simp only [Int.not_lt, Int.not_le] at *; go_simp))

end Go.Proofs.Qxb6609292a
