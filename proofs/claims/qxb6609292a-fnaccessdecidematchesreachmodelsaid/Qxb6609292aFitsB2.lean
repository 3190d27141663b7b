/-
  THE WALK of fitsWorld, seat b6609292a (laid by a script of this seat's).
-/
import Derived.Test.Qxb6609292aFitsC
set_option linter.unusedVariables false
set_option linter.unusedSimpArgs false
namespace Go.Proofs.Qxb6609292a
open Go.RowKit Go.Maps

set_option maxRecDepth 1000000 in
set_option maxHeartbeats 16000000 in
theorem fits_b {x6 x7 x8 x9 x10 x11 x12 x13 x14 x15 x16 x17 x18 x19 x20 x21 x22 x23 x24 x26 x27 x28 x29 x30 x31 x32 x33 x34 x35 x36 x37 x38 x39 x40 x41 x42 x43 x44 x45 x46 x47 x48 x49 x50 x51 x52 x53 x54 x55 x56 x57 x58 x59 x60 x61 x62 x63 x64 x65 x66 x67 x68 x69 x70 x71 x72 x73 x74 x75 x76 x77 x78 x79 x80 x81 x82 x83 x84 x85 x86 x87 x88 x89 x90 x91 x92 x93 x94 x95 x96 x97 x98 x99 x100 x101 x102 x103 x104 x105 x106 x107 x108 x109 x110 x111 x112 x113 x114 x115 x116 x117 x118 x119 x120 x121 x122 x123 x124 x125 x126 x127 x128 x129 x130 x131 x132 x133 x134 x135 x136 x137 x138 x139 x140 x141 x142 x143 x144 x145 x146 x147 x148 x149 x150 x151 x152 x153 x154 x155 x156 x157 x158 x159 x160 x161 x162 x163 x164 x165 x166 x167 x168 x169 x170 x171 x172 x173 x174 x175 x176 x177 x178 x179 x180 x181 x182 x183 x184 x185 x186 x187 x188 x189 x190 x191 x192 x193 x194 x195 x196 x197 x198 x199 x200 x201 x202 x203 x204 x205 x206 x207 x208 x209 x210 x211 x212 x213 x214 x215 x216 x217 x218 x219 x220 x221 x222 x223 x224 x225 x226 x227 x228 x229 x230 x231 x232 x233 x234 x235 x236 x237 x238 x239 x240 x241 x242 x243 x244 x245 x246 x247 x248 x249 x250 x251 x252 x253 x254 x255 x256 x257 x258 x259 x260 x261 x262 x263 x264 x265 x266 x267 x268 x269 x270 x271 x272 x273 x274 x275 x276 x277 x278 x279 x280 x281 x282 x283 x284 x285 x286 x287 x288 x289 x290 x291 x292 x293 x294 x295 x296 x297 x298 x299 x300 x301 x302 x303 x304 x305 x306 x307 x308 x309 x310 x311 x312 x313 : Value} (os : List Org) (rs : List Role) (us : List User) (ss : List Share) (an : List ByteArray) (w : World) (ao ar au ash aa : Option Addr) (co cr cu csh ca : Nat) (ho : OrgsAt w (.slice ao os.length co) os) (hr : RolesAt w (.slice ar rs.length cr) rs) (hu : UsersAt w (.slice au us.length cu) us) (hs : SharesAt w (.slice ash ss.length csh) ss) (ha : StrsAt w (.slice aa an.length ca) an)
    (no : os.length ≤ 1048576) (nr : rs.length ≤ 1048576) (nu : us.length ≤ 1048576) (ns : ss.length ≤ 1048576) (na : an.length ≤ 1048576) (ng : ∀ r ∈ rs, r.grants.length ≤ 1048576) (nur : ∀ u ∈ us, u.roles.length ≤ 1048576) (nsp : ∀ s ∈ ss, s.perms.length ≤ 1048576)
    (wA : World) (he : Ext w wA) (hbud : Bud wA w.heap.size) :
    Code.wp Try.prog (dropSeq 18 (Try.f6.body.getD .skip)) (bodyPost Try.prog Try.f6 (FitsPost w)) ⟨#[.slice ao os.length co, .slice ar rs.length cr, .slice au us.length cu, .slice ash ss.length csh, .slice none 0 0, .slice aa an.length ca, x6, x7, x8, x9, x10, x11, x12, x13, x14, x15, x16, x17, x18, x19, x20, x21, x22, x23, x24, .pointer (some ⟨w.heap.size, 0, none⟩), x26, x27, x28, x29, x30, x31, x32, x33, x34, x35, x36, x37, x38, x39, x40, x41, x42, x43, x44, x45, x46, x47, x48, x49, x50, x51, x52, x53, x54, x55, x56, x57, x58, x59, x60, x61, x62, x63, x64, x65, x66, x67, x68, x69, x70, x71, x72, x73, x74, x75, x76, x77, x78, x79, x80, x81, x82, x83, x84, x85, x86, x87, x88, x89, x90, x91, x92, x93, x94, x95, x96, x97, x98, x99, x100, x101, x102, x103, x104, x105, x106, x107, x108, x109, x110, x111, x112, x113, x114, x115, x116, x117, x118, x119, x120, x121, x122, x123, x124, x125, x126, x127, x128, x129, x130, x131, x132, x133, x134, x135, x136, x137, x138, x139, x140, x141, x142, x143, x144, x145, x146, x147, x148, x149, x150, x151, x152, x153, x154, x155, x156, x157, x158, x159, x160, x161, x162, x163, x164, x165, x166, x167, x168, x169, x170, x171, x172, x173, x174, x175, x176, x177, x178, x179, x180, x181, x182, x183, x184, x185, x186, x187, x188, x189, x190, x191, x192, x193, x194, x195, x196, x197, x198, x199, x200, x201, x202, x203, x204, x205, x206, x207, x208, x209, x210, x211, x212, x213, x214, x215, x216, x217, x218, x219, x220, x221, x222, x223, x224, x225, x226, x227, x228, x229, x230, x231, x232, x233, x234, x235, x236, x237, x238, x239, x240, x241, x242, x243, x244, x245, x246, x247, x248, x249, x250, x251, x252, x253, x254, x255, x256, x257, x258, x259, x260, x261, x262, x263, x264, x265, x266, x267, x268, x269, x270, x271, x272, x273, x274, x275, x276, x277, x278, x279, x280, x281, x282, x283, x284, x285, x286, x287, x288, x289, x290, x291, x292, x293, x294, x295, x296, x297, x298, x299, x300, x301, x302, x303, x304, x305, x306, x307, x308, x309, x310, x311, x312, x313], []⟩ wA := by
  conv => arg 2; whnf
  go_wp2_with fail
  go_loopw [174] (fun j wr => ∃ k : Nat, j = .int .i64 k ∧ k ≤ us.length ∧ Bud wr w.heap.size ∧ Ext w wr) (fun i _ => us.length - (intOf i).toNat)
  case atStart => exact ⟨0, rfl, Nat.zero_le _, hbud, he⟩
  case round =>
    clear hbud he
    obtain ⟨k, rfl, hk, hbud, he⟩ := hrel
    by_cases hlt : k < us.length
    · obtain ⟨o, hoo⟩ := get_at us k hlt
      obtain ⟨bb, off, rfl, c0, c1, ok⟩ := hu.at hoo
      have hl2 := nur o (List.mem_of_getElem? hoo)
      have hG := ok.2
      obtain ⟨ga, gc, hgv, hgc⟩ := hG.shape
      rw [hgv] at c1 hG
      have C0 : ∀ wn, Ext w wn → wn.cell? ⟨bb, off + k * 2, none⟩ = some (.string o.id) := fun wn h => h.cell c0
      have C1 : ∀ wn, Ext w wn → wn.cell? ⟨bb, off + k * 2 + 1, none⟩ = some (.slice ga o.roles.length gc) := fun wn h => h.cell c1
      clear hoo c0 c1 ok hgv hgc
      go_wp2_with (first
        | (go_at_call 23; refine (text_any w.heap.size _ _ hbud).mono ?_; rintro e wn ⟨rfl, hb2, hg2⟩; have he2 := ext_st he hg2 (Nat.le_refl _); clear he hbud hg2; have he := he2; have hbud := hb2; clear he2 hb2)
        | (go_at_call 24; refine (words_any w.heap.size _ _ hbud).mono ?_; rintro e wn ⟨rfl, hb2, hg2⟩; have he2 := ext_st he hg2 (Nat.le_refl _); clear he hbud hg2; have he := he2; have hbud := hb2; clear he2 hb2; obtain ⟨ov, cO⟩ := bud_over hbud; cases ov))
      rotate_left
      · go_ret
        exact ⟨_, rfl, he⟩
      · go_loopw [198] (fun j wr => ∃ q : Nat, j = .int .i64 q ∧ q ≤ o.roles.length ∧ Bud wr w.heap.size ∧ Ext w wr) (fun i _ => o.roles.length - (intOf i).toNat)
        case atStart => exact ⟨0, rfl, Nat.zero_le _, hbud, he⟩
        case round =>
          clear hbud he
          obtain ⟨q, rfl, hq, hbud, he⟩ := hrel
          by_cases hlq : q < o.roles.length
          · obtain ⟨x, hx⟩ := get_at o.roles q hlq
            obtain ⟨xb, xoff, rfl, x0, xok⟩ := hG.at hx
            have X0 : ∀ wn, Ext w wn → wn.cell? ⟨xb, xoff + q, none⟩ = some (.string x) := fun wn h => h.cell x0
            clear hx x0
            go_wp2_with (first
              | (go_at_call 23; refine (text_any w.heap.size _ _ hbud).mono ?_; rintro e wn ⟨rfl, hb2, hg2⟩; have he2 := ext_st he hg2 (Nat.le_refl _); clear he hbud hg2; have he := he2; have hbud := hb2; clear he2 hb2))
            go_roundw
            case rel => exact ⟨q + 1, by go_num, by omega, hbud, he⟩
            case measure => simp [intOf]; omega
          · obtain rfl : q = o.roles.length := by omega
            go_wp2
            go_roundw
            case rel => exact ⟨k + 1, by go_num, by omega, hbud, he⟩
            case measure => simp [intOf]; omega
    · obtain rfl : k = us.length := by omega
      repeat (first | (exact fits_c os rs us ss an w _ _ _ _ _ _ _ _ _ _ ho hr hu hs ha no nr nu ns na ng nur nsp _ he hbud) | go_values | go_skip | go_guarded | go_step | go_upon | (simp only [Int.not_lt, Int.not_le] at *; go_simp))
end Go.Proofs.Qxb6609292a
