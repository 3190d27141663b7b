/-
  THE WALK of wantOf, seat b6609292a, part 4 (laid by a script of this seat's).
-/
import Derived.Test.Qxb6609292aWant0
set_option linter.unusedVariables false
set_option linter.unusedSimpArgs false
namespace Go.Proofs.Qxb6609292a
open Go.RowKit Go.Maps

set_option maxRecDepth 1000000 in
set_option maxHeartbeats 16000000 in
theorem want_t4 {x5 x6 x7 x8 x9 x11 x12 x13 x14 x16 x17 x18 x19 x20 x21 x22 x23 x24 x25 x26 x27 x28 x29 x30 x31 x32 x33 x34 x36 x38 x39 x40 x41 x42 x43 x44 x45 x46 x47 x48 x49 x50 x51 x52 x53 x54 x55 x56 x57 x58 x59 x60 x61 x62 x63 x64 x65 x66 x67 x68 x69 x70 x71 x72 x73 x74 x75 x76 x77 x78 x79 x80 x81 x82 x83 x84 x85 x86 x87 x88 x89 x90 x91 x92 x93 x94 x95 x96 x97 x98 x99 x100 x101 x102 x103 x104 x105 x106 x107 x108 x109 x110 x111 x112 x113 x114 x115 x116 x117 x118 x119 x120 x121 x122 x123 x124 x125 x126 x127 x128 x129 x130 x131 x132 x133 x134 x135 x136 x137 x138 x139 x140 x141 x142 x143 x144 x145 x146 x147 x148 x149 x150 x151 x152 x153 x154 x155 x156 x157 x158 x159 x160 x161 x162 x163 x164 x165 x166 x167 x168 x169 x170 x171 x172 x173 x174 x175 x176 x177 x178 x179 x180 x181 x182 x183 x184 x185 x186 x187 x188 x189 x190 x191 x192 x193 x194 x195 x196 x197 x198 x199 x200 x201 x202 x203 x204 x205 x206 x207 x208 x209 x210 x211 x212 x213 x214 x215 x216 x217 x218 x219 x220 x221 x222 x223 x224 x225 x226 x227 x228 x229 x230 x231 x232 x233 x234 x235 x236 x237 x238 x239 x240 x241 x242 x243 x244 x245 x246 x247 x248 x249 x250 x251 x252 x253 x254 x255 x256 x257 x258 x259 x260 x261 x262 x263 x264 x265 x266 x267 x268 x269 x270 x271 x272 x273 x274 x275 x276 x277 x278 x279 x280 x281 x282 x283 x284 x285 x286 x287 x288 x289 x290 x291 x292 x293 x294 x295 x296 x297 x298 x299 x300 x301 x302 x303 x304 x305 x306 x307 x308 x309 x310 x311 x312 x313 x314 x315 x316 x317 x318 x319 x320 x321 x322 x323 x324 x325 x326 x327 x328 x329 x330 x331 x332 x333 x334 x335 x336 x337 x338 x339 x340 x341 x342 x343 x344 x345 x346 x347 x348 x349 x350 x351 x352 x353 x354 x355 x356 x357 x358 x359 x360 x361 x362 x363 x364 x365 x366 x367 x368 x369 x370 x371 x372 x373 x374 x375 x376 x377 x378 x379 x380 x381 x382 x383 x384 x385 x386 x387 x388 x389 x390 x391 x392 x393 x394 x395 x396 x397 x398 x399 x400 x401 x402 x403 x404 x405 x406 x407 x408 x409 x410 x411 x412 x413 x414 x415 x416 x417 x418 x419 x420 x421 x422 x423 x424 x425 x426 x427 x428 x429 x430 x431 x432 x433 x434 x435 x436 x437 x438 x439 x440 x441 x442 x443 x444 x445 x446 x447 x448 x449 x450 x451 x452 x453 x454 x455 x456 x457 x458 x459 x460 x461 x462 x463 x464 x465 x466 x467 x468 x469 x470 x471 x472 x473 x474 x475 x476 x477 x478 x479 x480 x481 x482 x483 x484 x485 x486 x487 x488 x489 x490 x491 x492 x493 x494 x495 x496 x497 x498 x499 x500 x501 x502 x503 x504 x505 x506 x507 x508 x509 x510 x511 x512 x513 x514 x515 x516 x517 x518 x519 x520 x521 x522 x523 x524 x525 x526 x527 x528 x529 x530 x531 : Value} (os : List Org) (rs : List Role) (us : List User) (ss : List Share) (w : World) (ao ar au ash : Option Addr) (co cr cu csh : Nat) (ho : OrgsAt w (.slice ao os.length co) os) (hr : RolesAt w (.slice ar rs.length cr) rs) (hu : UsersAt w (.slice au us.length cu) us) (hs : SharesAt w (.slice ash ss.length csh) ss)
    (no : os.length ≤ 1048576) (nr : rs.length ≤ 1048576) (nu : us.length ≤ 1048576) (ns : ss.length ≤ 1048576) (ng : ∀ r ∈ rs, r.grants.length ≤ 1048576) (nur : ∀ u ∈ us, u.roles.length ≤ 1048576)
    (bm bR bU : Nat) (w19 : World) (he19 : Ext w w19) (hz19 : Blk w19 w.heap.size Z32) (hm19 : SM w19 3 bm os.length (posF (os.map Org.id) (os.map Org.id).length)) (hR19 : SM w19 4 bR rs.length (setF (rs.map Role.id))) (hU19 : SM w19 4 bU us.length (setF (us.map User.id)))
    (hids : Hid (IdsOk (os.map Org.id))) (hpar : Hid (∀ o ∈ os, o.parent = ⟨#[]⟩ ∨ o.parent ∈ os.map Org.id)) (hends : Hid (∀ q : Nat, q < os.length → Ends (parL os) q)) (hidrs : Hid (IdsOk (rs.map Role.id))) (hidus : Hid (IdsOk (us.map User.id))) (hidss : Hid (IdsOk (ss.map Share.id))) (HROLE : Hid (∀ r ∈ rs, r.org ∈ os.map Org.id ∧ ∀ g ∈ r.grants, g.scope = 0 ∨ g.scope = 1)) :
    Code.wp Try.prog (dropSeq 24 (Try.f8.body.getD .skip)) (bodyPost Try.prog Try.f8 (WantPost os rs us ss w)) ⟨#[.slice ao os.length co, .slice ar rs.length cr, .slice au us.length cu, .slice ash ss.length csh, .slice none 0 0, x5, x6, x7, x8, x9, .pointer (some ⟨w.heap.size, 0, none⟩), x11, x12, x13, x14, .map (some bm), x16, x17, x18, x19, x20, x21, x22, x23, x24, x25, x26, x27, x28, x29, x30, x31, x32, x33, x34, .map (some bR), x36, .map (some bU), x38, x39, x40, x41, x42, x43, x44, x45, x46, x47, x48, x49, x50, x51, x52, x53, x54, x55, x56, x57, x58, x59, x60, x61, x62, x63, x64, x65, x66, x67, x68, x69, x70, x71, x72, x73, x74, x75, x76, x77, x78, x79, x80, x81, x82, x83, x84, x85, x86, x87, x88, x89, x90, x91, x92, x93, x94, x95, x96, x97, x98, x99, x100, x101, x102, x103, x104, x105, x106, x107, x108, x109, x110, x111, x112, x113, x114, x115, x116, x117, x118, x119, x120, x121, x122, x123, x124, x125, x126, x127, x128, x129, x130, x131, x132, x133, x134, x135, x136, x137, x138, x139, x140, x141, x142, x143, x144, x145, x146, x147, x148, x149, x150, x151, x152, x153, x154, x155, x156, x157, x158, x159, x160, x161, x162, x163, x164, x165, x166, x167, x168, x169, x170, x171, x172, x173, x174, x175, x176, x177, x178, x179, x180, x181, x182, x183, x184, x185, x186, x187, x188, x189, x190, x191, x192, x193, x194, x195, x196, x197, x198, x199, x200, x201, x202, x203, x204, x205, x206, x207, x208, x209, x210, x211, x212, x213, x214, x215, x216, x217, x218, x219, x220, x221, x222, x223, x224, x225, x226, x227, x228, x229, x230, x231, x232, x233, x234, x235, x236, x237, x238, x239, x240, x241, x242, x243, x244, x245, x246, x247, x248, x249, x250, x251, x252, x253, x254, x255, x256, x257, x258, x259, x260, x261, x262, x263, x264, x265, x266, x267, x268, x269, x270, x271, x272, x273, x274, x275, x276, x277, x278, x279, x280, x281, x282, x283, x284, x285, x286, x287, x288, x289, x290, x291, x292, x293, x294, x295, x296, x297, x298, x299, x300, x301, x302, x303, x304, x305, x306, x307, x308, x309, x310, x311, x312, x313, x314, x315, x316, x317, x318, x319, x320, x321, x322, x323, x324, x325, x326, x327, x328, x329, x330, x331, x332, x333, x334, x335, x336, x337, x338, x339, x340, x341, x342, x343, x344, x345, x346, x347, x348, x349, x350, x351, x352, x353, x354, x355, x356, x357, x358, x359, x360, x361, x362, x363, x364, x365, x366, x367, x368, x369, x370, x371, x372, x373, x374, x375, x376, x377, x378, x379, x380, x381, x382, x383, x384, x385, x386, x387, x388, x389, x390, x391, x392, x393, x394, x395, x396, x397, x398, x399, x400, x401, x402, x403, x404, x405, x406, x407, x408, x409, x410, x411, x412, x413, x414, x415, x416, x417, x418, x419, x420, x421, x422, x423, x424, x425, x426, x427, x428, x429, x430, x431, x432, x433, x434, x435, x436, x437, x438, x439, x440, x441, x442, x443, x444, x445, x446, x447, x448, x449, x450, x451, x452, x453, x454, x455, x456, x457, x458, x459, x460, x461, x462, x463, x464, x465, x466, x467, x468, x469, x470, x471, x472, x473, x474, x475, x476, x477, x478, x479, x480, x481, x482, x483, x484, x485, x486, x487, x488, x489, x490, x491, x492, x493, x494, x495, x496, x497, x498, x499, x500, x501, x502, x503, x504, x505, x506, x507, x508, x509, x510, x511, x512, x513, x514, x515, x516, x517, x518, x519, x520, x521, x522, x523, x524, x525, x526, x527, x528, x529, x530, x531], []⟩ w19 := by
  conv => arg 2; whnf
  unfold WantPost
  go_wp2_with fail
  go_loopw [373] (fun j wr => ∃ k : Nat, j = .int .i64 k ∧ k ≤ us.length ∧ (∀ u ∈ us.take k, ∀ x ∈ u.roles, x ∈ rs.map Role.id) ∧ w19 = wr) (fun i _ => us.length - (intOf i).toNat)
  case atStart => exact ⟨0, rfl, Nat.zero_le _, by simp, rfl⟩
  case round =>
    obtain ⟨k, rfl, hk, hall, rfl⟩ := hrel
    by_cases hlt : k < us.length
    · obtain ⟨o, hoo⟩ := get_at us k hlt
      obtain ⟨bb, off, rfl, c0, c1, ok⟩ := hu.at hoo
      have d0 := he19.cell c0
      have d1 := he19.cell c1
      have hl2 := nur o (List.mem_of_getElem? hoo)
      have HO : Hid (us[k]? = some o) := hoo
      obtain ⟨ga, gc, hgv, hgc⟩ := ok.2.shape
      have hG := ok.2
      rw [hgv] at d1 hG
      clear hoo c0 c1 hgv ok hgc
      go_wp2_with fail
      go_loopw [382] (fun j wr => ∃ q : Nat, j = .int .i64 q ∧ q ≤ o.roles.length ∧ (∀ x ∈ o.roles.take q, x ∈ rs.map Role.id) ∧ w19 = wr) (fun i _ => o.roles.length - (intOf i).toNat)
      case atStart => exact ⟨0, rfl, Nat.zero_le _, by simp, rfl⟩
      case round =>
        obtain ⟨q, rfl, hq, hin, rfl⟩ := hrel
        by_cases hlq : q < o.roles.length
        · obtain ⟨x, hx⟩ := get_at o.roles q hlq
          obtain ⟨xb, xoff, rfl, x0, xok⟩ := hG.at hx
          have y0 := he19.cell x0
          by_cases hmem : x ∈ rs.map Role.id
          · have hlk := hR19.has xok hmem
            have hin' := all_take_succ hx hin hmem
            clear hx x0 hin hall hmem
            go_wp2_with fail
            go_roundw
            case rel => exact ⟨q + 1, by go_num, by omega, hin', by trivial⟩
            case measure => simp [intOf]; omega
          · have hlk := hR19.hasnt xok hmem
            clear hx x0 hin hall hmem
            go_wp2_with fail
            obtain ⟨z0, z1, z2, z3, z4, z5, z6, z7, zf⟩ := z8 hz19
            go_big_region
            go_wp2
            refine bodyPost_ret (v := .agg #[.int .i64 2, .int .i64 k, .string o.id, .string ⟨#[]⟩, .string ⟨#[117, 115, 101, 114, 115]⟩, .string ⟨#[114, 111, 108, 101, 115]⟩, .string x, .int .i64 6]) (by simp [results, Try.results8, go_sem, z0, z1, z2, z3, z4, z5, z6, z7]) rfl ⟨_, _, _, _, _, _, _, _, fun h => absurd h (by decide), rfl, ?_⟩
            exact (he19.set8 _ _ _ _ _ _ _ _).drawn
        · obtain rfl : q = o.roles.length := by omega
          rw [List.take_length] at hin
          have hall' := all_take_succ HO.out hall hin
          clear hall hin
          go_wp2
          go_roundw
          case rel => exact ⟨k + 1, by go_num, by omega, hall', by trivial⟩
          case measure => simp [intOf]; omega
    · obtain rfl : k = us.length := by omega
      rw [List.take_length] at hall
      have HUSER : Hid (∀ u ∈ us, ∀ x ∈ u.roles, x ∈ rs.map Role.id) := hall
      clear hall hk hlt
      go_wp2_with fail
      go_loopw [415] (fun j wr => ∃ k : Nat, j = .int .i64 k ∧ k ≤ ss.length ∧ (∀ s ∈ ss.take k, s.owner ∈ os.map Org.id ∧ s.dest ∈ os.map Org.id ∧ (s.by_ = ⟨#[]⟩ ∨ s.by_ ∈ us.map User.id)) ∧ w19 = wr) (fun i _ => ss.length - (intOf i).toNat)
      case atStart => exact ⟨0, rfl, Nat.zero_le _, by simp, rfl⟩
      case round =>
        obtain ⟨k, rfl, hk, hall, rfl⟩ := hrel
        by_cases hlt : k < ss.length
        · obtain ⟨o, hoo⟩ := get_at ss k hlt
          obtain ⟨bb, off, rfl, c0, c1, c2, c3, c4, ok⟩ := hs.at hoo
          have d0 := he19.cell c0
          have d1 := he19.cell c1
          have d2 := he19.cell c2
          have d4 := he19.cell c4
          clear c0 c1 c2 c3 c4
          cases hp : idxTo (os.map Org.id) (os.map Org.id).length o.owner with
          | none =>
            have hlk := hm19.nopos ok.2.1 hp
            clear hp hoo hall
            go_wp2_with fail
            obtain ⟨z0, z1, z2, z3, z4, z5, z6, z7, zf⟩ := z8 hz19
            go_big_region
            go_wp2
            refine bodyPost_ret (v := .agg #[.int .i64 2, .int .i64 k, .string o.id, .string ⟨#[]⟩, .string ⟨#[115, 104, 97, 114, 101, 115]⟩, .string ⟨#[111, 119, 110, 101, 114]⟩, .string o.owner, .int .i64 5]) (by simp [results, Try.results8, go_sem, z0, z1, z2, z3, z4, z5, z6, z7]) rfl ⟨_, _, _, _, _, _, _, _, fun h => absurd h (by decide), rfl, ?_⟩
            exact (he19.set8 _ _ _ _ _ _ _ _).drawn
          | some p1 =>
            have hlk := hm19.pos ok.2.1 hp
            cases hp2 : idxTo (os.map Org.id) (os.map Org.id).length o.dest with
            | none =>
              have hlk2 := hm19.nopos ok.2.2.1 hp2
              clear hp hp2 hoo hall
              go_wp2_with fail
              obtain ⟨z0, z1, z2, z3, z4, z5, z6, z7, zf⟩ := z8 hz19
              go_big_region
              go_wp2
              refine bodyPost_ret (v := .agg #[.int .i64 2, .int .i64 k, .string o.id, .string ⟨#[]⟩, .string ⟨#[115, 104, 97, 114, 101, 115]⟩, .string ⟨#[116, 111]⟩, .string o.dest, .int .i64 5]) (by simp [results, Try.results8, go_sem, z0, z1, z2, z3, z4, z5, z6, z7]) rfl ⟨_, _, _, _, _, _, _, _, fun h => absurd h (by decide), rfl, ?_⟩
              exact (he19.set8 _ _ _ _ _ _ _ _).drawn
            | some p2 =>
              have hlk2 := hm19.pos ok.2.2.1 hp2
              rcases str_empty o.by_ with ⟨e1, e2⟩ | ⟨e1, e2⟩
              · have hall' := all_take_succ hoo hall ⟨idx_some_mem hp, idx_some_mem hp2, Or.inl e2.out⟩
                clear hp hp2 hoo hall
                go_wp2_with fail
                go_roundw
                case rel => exact ⟨k + 1, by go_num, by omega, hall', by trivial⟩
                case measure => simp [intOf]; omega
              · by_cases hmem : o.by_ ∈ us.map User.id
                · have hlk3 := hU19.has ok.2.2.2.1 hmem
                  have hall' := all_take_succ hoo hall ⟨idx_some_mem hp, idx_some_mem hp2, Or.inr hmem⟩
                  clear hp hp2 hoo hall hmem
                  go_wp2_with fail
                  go_roundw
                  case rel => exact ⟨k + 1, by go_num, by omega, hall', by trivial⟩
                  case measure => simp [intOf]; omega
                · have hlk3 := hU19.hasnt ok.2.2.2.1 hmem
                  clear hp hp2 hoo hall hmem
                  go_wp2_with fail
                  obtain ⟨z0, z1, z2, z3, z4, z5, z6, z7, zf⟩ := z8 hz19
                  go_big_region
                  go_wp2
                  refine bodyPost_ret (v := .agg #[.int .i64 2, .int .i64 k, .string o.id, .string ⟨#[]⟩, .string ⟨#[115, 104, 97, 114, 101, 115]⟩, .string ⟨#[99, 114, 101, 97, 116, 101, 100, 66, 121]⟩, .string o.by_, .int .i64 7]) (by simp [results, Try.results8, go_sem, z0, z1, z2, z3, z4, z5, z6, z7]) rfl ⟨_, _, _, _, _, _, _, _, fun h => absurd h (by decide), rfl, ?_⟩
                  exact (he19.set8 _ _ _ _ _ _ _ _).drawn
        · obtain rfl : k = ss.length := by omega
          rw [List.take_length] at hall
          have HSH : Hid (∀ s ∈ ss, s.owner ∈ os.map Org.id ∧ s.dest ∈ os.map Org.id ∧ (s.by_ = ⟨#[]⟩ ∨ s.by_ ∈ us.map User.id)) := hall
          clear hall hk hlt
          go_wp2_with fail
          go_loopw [497] (fun j wr => j = .int .i64 0 ∧ w19 = wr) (fun _ _ => 0)
          case atStart => exact ⟨rfl, rfl⟩
          case round =>
            obtain ⟨rfl, rfl⟩ := hrel
            obtain ⟨z0, z1, z2, z3, z4, z5, z6, z7, zf⟩ := z8 hz19
            go_wp2
            refine bodyPost_ret (v := .agg #[.int .i64 0, .int .i64 (-1), .string ⟨#[]⟩, .string ⟨#[]⟩, .string ⟨#[]⟩, .string ⟨#[]⟩, .string ⟨#[]⟩, .int .i64 0]) (by simp [results, Try.results8, go_sem, z0, z1, z2, z3, z4, z5, z6, z7]) rfl ⟨_, _, _, _, _, _, _, _, fun _ => ⟨hids.out, hpar.out, hends.out, hidrs.out, hidus.out, hidss.out, HROLE.out, HUSER.out, HSH.out⟩, rfl, ?_⟩
            exact he19.set8 _ _ _ _ _ _ _ _
end Go.Proofs.Qxb6609292a
