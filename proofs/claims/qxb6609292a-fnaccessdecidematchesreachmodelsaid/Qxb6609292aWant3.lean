/-
  THE WALK of wantOf, seat b6609292a, part 3 (laid by a script of this seat's).
-/
import Derived.Test.Qxb6609292aWant4
set_option linter.unusedVariables false
set_option linter.unusedSimpArgs false
namespace Go.Proofs.Qxb6609292a
open Go.RowKit Go.Maps

set_option maxRecDepth 1000000 in
set_option maxHeartbeats 16000000 in
theorem want_t3 {x5 x6 x7 x8 x9 x11 x12 x13 x14 x16 x17 x18 x19 x20 x21 x22 x23 x24 x25 x26 x27 x28 x29 x30 x31 x32 x33 x34 x36 x38 x39 x40 x41 x42 x43 x44 x45 x46 x47 x48 x49 x50 x51 x52 x53 x54 x55 x56 x57 x58 x59 x60 x61 x62 x63 x64 x65 x66 x67 x68 x69 x70 x71 x72 x73 x74 x75 x76 x77 x78 x79 x80 x81 x82 x83 x84 x85 x86 x87 x88 x89 x90 x91 x92 x93 x94 x95 x96 x97 x98 x99 x100 x101 x102 x103 x104 x105 x106 x107 x108 x109 x110 x111 x112 x113 x114 x115 x116 x117 x118 x119 x120 x121 x122 x123 x124 x125 x126 x127 x128 x129 x130 x131 x132 x133 x134 x135 x136 x137 x138 x139 x140 x141 x142 x143 x144 x145 x146 x147 x148 x149 x150 x151 x152 x153 x154 x155 x156 x157 x158 x159 x160 x161 x162 x163 x164 x165 x166 x167 x168 x169 x170 x171 x172 x173 x174 x175 x176 x177 x178 x179 x180 x181 x182 x183 x184 x185 x186 x187 x188 x189 x190 x191 x192 x193 x194 x195 x196 x197 x198 x199 x200 x201 x202 x203 x204 x205 x206 x207 x208 x209 x210 x211 x212 x213 x214 x215 x216 x217 x218 x219 x220 x221 x222 x223 x224 x225 x226 x227 x228 x229 x230 x231 x232 x233 x234 x235 x236 x237 x238 x239 x240 x241 x242 x243 x244 x245 x246 x247 x248 x249 x250 x251 x252 x253 x254 x255 x256 x257 x258 x259 x260 x261 x262 x263 x264 x265 x266 x267 x268 x269 x270 x271 x272 x273 x274 x275 x276 x277 x278 x279 x280 x281 x282 x283 x284 x285 x286 x287 x288 x289 x290 x291 x292 x293 x294 x295 x296 x297 x298 x299 x300 x301 x302 x303 x304 x305 x306 x307 x308 x309 x310 x311 x312 x313 x314 x315 x316 x317 x318 x319 x320 x321 x322 x323 x324 x325 x326 x327 x328 x329 x330 x331 x332 x333 x334 x335 x336 x337 x338 x339 x340 x341 x342 x343 x344 x345 x346 x347 x348 x349 x350 x351 x352 x353 x354 x355 x356 x357 x358 x359 x360 x361 x362 x363 x364 x365 x366 x367 x368 x369 x370 x371 x372 x373 x374 x375 x376 x377 x378 x379 x380 x381 x382 x383 x384 x385 x386 x387 x388 x389 x390 x391 x392 x393 x394 x395 x396 x397 x398 x399 x400 x401 x402 x403 x404 x405 x406 x407 x408 x409 x410 x411 x412 x413 x414 x415 x416 x417 x418 x419 x420 x421 x422 x423 x424 x425 x426 x427 x428 x429 x430 x431 x432 x433 x434 x435 x436 x437 x438 x439 x440 x441 x442 x443 x444 x445 x446 x447 x448 x449 x450 x451 x452 x453 x454 x455 x456 x457 x458 x459 x460 x461 x462 x463 x464 x465 x466 x467 x468 x469 x470 x471 x472 x473 x474 x475 x476 x477 x478 x479 x480 x481 x482 x483 x484 x485 x486 x487 x488 x489 x490 x491 x492 x493 x494 x495 x496 x497 x498 x499 x500 x501 x502 x503 x504 x505 x506 x507 x508 x509 x510 x511 x512 x513 x514 x515 x516 x517 x518 x519 x520 x521 x522 x523 x524 x525 x526 x527 x528 x529 x530 x531 : Value} (os : List Org) (rs : List Role) (us : List User) (ss : List Share) (w : World) (ao ar au ash : Option Addr) (co cr cu csh : Nat) (ho : OrgsAt w (.slice ao os.length co) os) (hr : RolesAt w (.slice ar rs.length cr) rs) (hu : UsersAt w (.slice au us.length cu) us) (hs : SharesAt w (.slice ash ss.length csh) ss)
    (no : os.length ≤ 1048576) (nr : rs.length ≤ 1048576) (nu : us.length ≤ 1048576) (ns : ss.length ≤ 1048576) (ng : ∀ r ∈ rs, r.grants.length ≤ 1048576) (nur : ∀ u ∈ us, u.roles.length ≤ 1048576)
    (bm bR bU : Nat) (w18 : World) (he18 : Ext w w18) (hz18 : Blk w18 w.heap.size Z32) (hm18 : SM w18 3 bm os.length (posF (os.map Org.id) (os.map Org.id).length)) (hR18 : SM w18 4 bR rs.length (setF (rs.map Role.id))) (hU18 : SM w18 4 bU us.length (setF (us.map User.id)))
    (hids : Hid (IdsOk (os.map Org.id))) (hpar : Hid (∀ o ∈ os, o.parent = ⟨#[]⟩ ∨ o.parent ∈ os.map Org.id)) (hends : Hid (∀ q : Nat, q < os.length → Ends (parL os) q)) (hidrs : Hid (IdsOk (rs.map Role.id))) (hidus : Hid (IdsOk (us.map User.id))) (hidss : Hid (IdsOk (ss.map Share.id))) :
    Code.wp Try.prog (dropSeq 23 (Try.f8.body.getD .skip)) (bodyPost Try.prog Try.f8 (WantPost os rs us ss w)) ⟨#[.slice ao os.length co, .slice ar rs.length cr, .slice au us.length cu, .slice ash ss.length csh, .slice none 0 0, x5, x6, x7, x8, x9, .pointer (some ⟨w.heap.size, 0, none⟩), x11, x12, x13, x14, .map (some bm), x16, x17, x18, x19, x20, x21, x22, x23, x24, x25, x26, x27, x28, x29, x30, x31, x32, x33, x34, .map (some bR), x36, .map (some bU), x38, x39, x40, x41, x42, x43, x44, x45, x46, x47, x48, x49, x50, x51, x52, x53, x54, x55, x56, x57, x58, x59, x60, x61, x62, x63, x64, x65, x66, x67, x68, x69, x70, x71, x72, x73, x74, x75, x76, x77, x78, x79, x80, x81, x82, x83, x84, x85, x86, x87, x88, x89, x90, x91, x92, x93, x94, x95, x96, x97, x98, x99, x100, x101, x102, x103, x104, x105, x106, x107, x108, x109, x110, x111, x112, x113, x114, x115, x116, x117, x118, x119, x120, x121, x122, x123, x124, x125, x126, x127, x128, x129, x130, x131, x132, x133, x134, x135, x136, x137, x138, x139, x140, x141, x142, x143, x144, x145, x146, x147, x148, x149, x150, x151, x152, x153, x154, x155, x156, x157, x158, x159, x160, x161, x162, x163, x164, x165, x166, x167, x168, x169, x170, x171, x172, x173, x174, x175, x176, x177, x178, x179, x180, x181, x182, x183, x184, x185, x186, x187, x188, x189, x190, x191, x192, x193, x194, x195, x196, x197, x198, x199, x200, x201, x202, x203, x204, x205, x206, x207, x208, x209, x210, x211, x212, x213, x214, x215, x216, x217, x218, x219, x220, x221, x222, x223, x224, x225, x226, x227, x228, x229, x230, x231, x232, x233, x234, x235, x236, x237, x238, x239, x240, x241, x242, x243, x244, x245, x246, x247, x248, x249, x250, x251, x252, x253, x254, x255, x256, x257, x258, x259, x260, x261, x262, x263, x264, x265, x266, x267, x268, x269, x270, x271, x272, x273, x274, x275, x276, x277, x278, x279, x280, x281, x282, x283, x284, x285, x286, x287, x288, x289, x290, x291, x292, x293, x294, x295, x296, x297, x298, x299, x300, x301, x302, x303, x304, x305, x306, x307, x308, x309, x310, x311, x312, x313, x314, x315, x316, x317, x318, x319, x320, x321, x322, x323, x324, x325, x326, x327, x328, x329, x330, x331, x332, x333, x334, x335, x336, x337, x338, x339, x340, x341, x342, x343, x344, x345, x346, x347, x348, x349, x350, x351, x352, x353, x354, x355, x356, x357, x358, x359, x360, x361, x362, x363, x364, x365, x366, x367, x368, x369, x370, x371, x372, x373, x374, x375, x376, x377, x378, x379, x380, x381, x382, x383, x384, x385, x386, x387, x388, x389, x390, x391, x392, x393, x394, x395, x396, x397, x398, x399, x400, x401, x402, x403, x404, x405, x406, x407, x408, x409, x410, x411, x412, x413, x414, x415, x416, x417, x418, x419, x420, x421, x422, x423, x424, x425, x426, x427, x428, x429, x430, x431, x432, x433, x434, x435, x436, x437, x438, x439, x440, x441, x442, x443, x444, x445, x446, x447, x448, x449, x450, x451, x452, x453, x454, x455, x456, x457, x458, x459, x460, x461, x462, x463, x464, x465, x466, x467, x468, x469, x470, x471, x472, x473, x474, x475, x476, x477, x478, x479, x480, x481, x482, x483, x484, x485, x486, x487, x488, x489, x490, x491, x492, x493, x494, x495, x496, x497, x498, x499, x500, x501, x502, x503, x504, x505, x506, x507, x508, x509, x510, x511, x512, x513, x514, x515, x516, x517, x518, x519, x520, x521, x522, x523, x524, x525, x526, x527, x528, x529, x530, x531], []⟩ w18 := by
  conv => arg 2; whnf
  unfold WantPost
  go_wp2_with fail
  go_loopw [296] (fun j wr => ∃ k : Nat, j = .int .i64 k ∧ k ≤ rs.length ∧ (∀ r ∈ rs.take k, r.org ∈ os.map Org.id ∧ ∀ g ∈ r.grants, g.scope = 0 ∨ g.scope = 1) ∧ Ext w18 wr) (fun i _ => rs.length - (intOf i).toNat)
  case atStart => exact ⟨0, rfl, Nat.zero_le _, by simp, Ext.refl _⟩
  case round =>
    obtain ⟨k, rfl, hk, hall, he⟩ := hrel
    by_cases hlt : k < rs.length
    · obtain ⟨o, hoo⟩ := get_at rs k hlt
      obtain ⟨bb, off, rfl, c0, c1, c2, c3, ok⟩ := hr.at hoo
      rename World => WO
      have d0 := (he18.trans he).cell c0
      have d2 := (he18.trans he).cell c2
      have d3 := (he18.trans he).cell c3
      cases hp : idxTo (os.map Org.id) (os.map Org.id).length o.org with
      | none =>
        have hlk := (hm18.ext he).nopos ok.2.2.1 hp
        clear hp hoo c0 c1 c2 hall
        go_wp2_with fail
        have heE := he18.trans he
        have hzE := hz18.ext he
        obtain ⟨z0, z1, z2, z3, z4, z5, z6, z7, zf⟩ := z8 hzE
        go_big_region
        go_wp2
        refine bodyPost_ret (v := .agg #[.int .i64 2, .int .i64 k, .string o.id, .string ⟨#[]⟩, .string ⟨#[114, 111, 108, 101, 115]⟩, .string ⟨#[111, 114, 103, 97, 110, 105, 122, 97, 116, 105, 111, 110]⟩, .string o.org, .int .i64 5]) (by simp [results, Try.results8, go_sem, z0, z1, z2, z3, z4, z5, z6, z7]) rfl ⟨_, _, _, _, _, _, _, _, fun h => absurd h (by decide), rfl, ?_⟩
        exact (heE.set8 _ _ _ _ _ _ _ _).drawn
      | some pq =>
        have hlk := (hm18.ext he).pos ok.2.2.1 hp
        have hmemo := idx_some_mem hp
        have hl2 := ng o (List.mem_of_getElem? hoo)
        have HO : Hid (rs[k]? = some o) := hoo
        obtain ⟨ga, gc, hgv, hgc⟩ := ok.2.2.2.shape
        have hG := ok.2.2.2
        rw [hgv] at c3 d3 hG
        clear hp hoo c1 c2 hgv ok hgc
        go_wp2_with fail
        go_loopw [42, 43, 329] (fun nv fv j wr => ∃ (q : Nat) (nm : ByteArray) (f : Bool), nv = .string nm ∧ fv = .bool f ∧ j = .int .i64 q ∧ q ≤ o.grants.length ∧ (f = false → ∀ g ∈ o.grants.take q, g.scope = 0 ∨ g.scope = 1) ∧ Ext WO wr) (fun _ _ i _ => o.grants.length - (intOf i).toNat)
        case atStart => exact ⟨0, _, false, rfl, rfl, rfl, Nat.zero_le _, by simp, Ext.refl _⟩
        case round =>
          obtain ⟨q, nm, f, rfl, rfl, rfl, hq, hsc, heq⟩ := hrel
          have heW := (he18.trans he).trans heq
          have f3 := heW.cell c3
          have f0 := heW.cell c0
          by_cases hlq : q < o.grants.length
          · obtain ⟨g, hg⟩ := get_at o.grants q hlq
            obtain ⟨gb, goff, rfl, g0, g1, gok⟩ := hG.at hg
            have h0 := heW.cell g0
            have h1 := heW.cell g1
            have HS : Hid ((f = false → ∀ g ∈ o.grants.take q, g.scope = 0 ∨ g.scope = 1)) := hsc
            have HA : (g.scope = 0 ∨ g.scope = 1) → Hid (f = false → ∀ g ∈ o.grants.take (q + 1), g.scope = 0 ∨ g.scope = 1) := fun hg' hf => all_take_succ hg (hsc hf) hg'
            clear hg g0 g1 hsc hall
            rcases ne_test g.scope 0 with ⟨t0, t0'⟩ | ⟨t0, t0'⟩
            · have HA' := HA (Or.inl t0'.out)
              clear HA HS
              go_wp2_with fail
              go_roundw
              case rel => exact ⟨q + 1, nm, f, rfl, rfl, by go_num, by omega, HA', heq.trans (Ext.alloc _ _)⟩
              case measure => simp [intOf]; omega
            · rcases ne_test g.scope 1 with ⟨t1, t1'⟩ | ⟨t1, t1'⟩
              · have HA' := HA (Or.inr t1'.out)
                clear HA HS
                go_wp2_with fail
                go_roundw
                case rel => exact ⟨q + 1, nm, f, rfl, rfl, by go_num, by omega, HA', heq.trans (Ext.alloc _ _)⟩
                case measure => simp [intOf]; omega
              · clear HA HS
                cases f
                · go_wp2_with fail
                  go_roundw
                  case rel => exact ⟨q + 1, g.name, true, rfl, rfl, by go_num, by omega, by simp, heq.trans (Ext.alloc _ _)⟩
                  case measure => simp [intOf]; omega
                · cases hbl : Op.bytesLess g.name.toList nm.toList
                  · go_wp2_with fail
                    go_roundw
                    case rel => exact ⟨q + 1, nm, true, rfl, rfl, by go_num, by omega, by simp, heq.trans (Ext.alloc _ _)⟩
                    case measure => simp [intOf]; omega
                  · go_wp2_with fail
                    go_roundw
                    case rel => exact ⟨q + 1, g.name, true, rfl, rfl, by go_num, by omega, by simp, heq.trans (Ext.alloc _ _)⟩
                    case measure => simp [intOf]; omega
          · obtain rfl : q = o.grants.length := by omega
            rw [List.take_length] at hsc
            cases f
            · have hall' := all_take_succ HO.out hall ⟨hmemo, hsc rfl⟩
              clear hall hsc
              go_wp2
              go_roundw
              case rel => exact ⟨k + 1, by go_num, by omega, hall', he.trans heq⟩
              case measure => simp [intOf]; omega
            · clear hall hsc
              have hzW := hz18.ext (he.trans heq)
              obtain ⟨z0, z1, z2, z3, z4, z5, z6, z7, zf⟩ := z8 hzW
              go_wp2
              refine bodyPost_ret (v := .agg #[.int .i64 2, .int .i64 k, .string o.id, .string ⟨#[]⟩, .string ⟨#[114, 111, 108, 101, 115]⟩, .string ⟨#[112, 101, 114, 109, 105, 115, 115, 105, 111, 110, 115]⟩, .string nm, .int .i64 8]) (by simp [results, Try.results8, go_sem, z0, z1, z2, z3, z4, z5, z6, z7]) rfl ⟨_, _, _, _, _, _, _, _, fun h => absurd h (by decide), rfl, ?_⟩
              exact (heW.set8 _ _ _ _ _ _ _ _)
    · obtain rfl : k = rs.length := by omega
      rw [List.take_length] at hall
      rename World => w19
      have he19 := he18.trans he
      have hz19 := hz18.ext he
      have hm19 := hm18.ext he
      have hR19 := hR18.ext he
      have hU19 := hU18.ext he
      clear he18 hz18 hm18 hR18 hU18 he hk hlt
      have HROLE : Hid (∀ r ∈ rs, r.org ∈ os.map Org.id ∧ ∀ g ∈ r.grants, g.scope = 0 ∨ g.scope = 1) := hall
      clear hall
      repeat (first | (exact want_t4 os rs us ss w _ _ _ _ _ _ _ _ ho hr hu hs no nr nu ns ng nur bm bR bU w19 he19 hz19 hm19 hR19 hU19 hids hpar hends hidrs hidus hidss HROLE) | go_values | go_skip | go_guarded | go_step | go_upon | (simp only [Int.not_lt, Int.not_le] at *; go_simp))
end Go.Proofs.Qxb6609292a
