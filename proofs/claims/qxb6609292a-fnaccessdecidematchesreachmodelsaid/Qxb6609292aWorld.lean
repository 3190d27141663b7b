/-
  THE WALK of toWorld, seat b6609292a (laid by a script of this seat's).
-/
import Derived.Test.Qxb6609292aWorldR
set_option linter.unusedVariables false
set_option linter.unusedSimpArgs false
namespace Go.Proofs.Qxb6609292a
open Go.RowKit Go.Maps

set_option maxRecDepth 1000000 in
set_option maxHeartbeats 16000000 in
theorem tw_o {x6 x7 x8 x9 x10 x11 x14 x15 x16 x17 x18 x19 x20 x21 x22 x23 x24 x25 x26 x27 x28 x29 x30 x31 x32 x33 x34 x35 x36 x37 x38 x39 x40 x41 x42 x43 x44 x45 x46 x47 x48 x49 x50 x51 x52 x53 x54 x55 x56 x57 x58 x59 x60 x61 x62 x63 x64 x65 x66 x67 x68 x69 x70 x71 x72 x73 x74 x75 x76 x77 x78 x79 x80 x81 x82 x83 x84 x85 x86 x87 x88 x89 x90 x91 x92 x93 x94 x95 x96 x97 x98 x99 x100 x101 x102 x103 x104 x105 x106 x107 x108 x109 x110 x111 x112 x113 x114 x115 x116 x117 x118 x119 x120 x121 x122 x123 x124 x125 x126 x127 x128 x129 x130 x131 x132 x133 x134 x135 x136 x137 x138 x139 x140 x141 x142 x143 x144 x145 x146 x147 x148 x149 x150 x151 x152 x153 x154 x155 x156 x157 x158 x159 x160 x161 x162 x163 x164 x165 x166 x167 x168 x169 x170 x171 x172 x173 x174 x175 x176 x177 x178 x179 x180 x181 x182 x183 x184 x185 x186 x187 x188 x189 x190 x191 x192 x193 x194 x195 x196 x197 x198 x199 x200 x201 x202 x203 x204 x205 x206 x207 x208 x209 x210 x211 x212 x213 x214 x215 x216 x217 x218 x219 x220 x221 x222 x223 x224 x225 x226 x227 x228 x229 x230 x231 x232 x233 x234 x235 x236 x237 x238 x239 x240 : Value} (os : List Org) (rs : List Role) (us : List User) (ss : List Share) (an : List ByteArray) (w : World) (ao ar au ash aa : Option Addr) (co cr cu csh ca : Nat) (ho : OrgsAt w (.slice ao os.length co) os) (hr : RolesAt w (.slice ar rs.length cr) rs) (hu : UsersAt w (.slice au us.length cu) us) (hs : SharesAt w (.slice ash ss.length csh) ss) (ha : StrsAt w (.slice aa an.length ca) an) (hSm : Small os rs us ss an)
    (wA : World) (he : Ext w wA)  (hW : Blk wA (w.heap.size + 1) [.slice none 0 0, .slice none 0 0, .slice none 0 0, .slice none 0 0, .slice none 0 0, .slice none 0 0]) (hR : Blk wA w.heap.size [.slice none 0 0, .slice none 0 0, .slice none 0 0, .slice none 0 0, .slice none 0 0, .slice none 0 0])  :
    Code.wp Try.prog (dropSeq 2 (Try.f11.body.getD .skip)) (bodyPost Try.prog Try.f11 (ToWPost os rs us ss an w)) ⟨#[.slice ao os.length co, .slice ar rs.length cr, .slice au us.length cu, .slice ash ss.length csh, .slice none 0 0, .slice aa an.length ca, x6, x7, x8, x9, x10, x11, .pointer (some ⟨w.heap.size, 0, none⟩), .pointer (some ⟨w.heap.size + 1, 0, none⟩), x14, x15, x16, x17, x18, x19, x20, x21, x22, x23, x24, x25, x26, x27, x28, x29, x30, x31, x32, x33, x34, x35, x36, x37, x38, x39, x40, x41, x42, x43, x44, x45, x46, x47, x48, x49, x50, x51, x52, x53, x54, x55, x56, x57, x58, x59, x60, x61, x62, x63, x64, x65, x66, x67, x68, x69, x70, x71, x72, x73, x74, x75, x76, x77, x78, x79, x80, x81, x82, x83, x84, x85, x86, x87, x88, x89, x90, x91, x92, x93, x94, x95, x96, x97, x98, x99, x100, x101, x102, x103, x104, x105, x106, x107, x108, x109, x110, x111, x112, x113, x114, x115, x116, x117, x118, x119, x120, x121, x122, x123, x124, x125, x126, x127, x128, x129, x130, x131, x132, x133, x134, x135, x136, x137, x138, x139, x140, x141, x142, x143, x144, x145, x146, x147, x148, x149, x150, x151, x152, x153, x154, x155, x156, x157, x158, x159, x160, x161, x162, x163, x164, x165, x166, x167, x168, x169, x170, x171, x172, x173, x174, x175, x176, x177, x178, x179, x180, x181, x182, x183, x184, x185, x186, x187, x188, x189, x190, x191, x192, x193, x194, x195, x196, x197, x198, x199, x200, x201, x202, x203, x204, x205, x206, x207, x208, x209, x210, x211, x212, x213, x214, x215, x216, x217, x218, x219, x220, x221, x222, x223, x224, x225, x226, x227, x228, x229, x230, x231, x232, x233, x234, x235, x236, x237, x238, x239, x240], []⟩ wA := by
  conv => arg 2; whnf
  have hWl := hW.lt
  have hnil := neqS 22 72 Try.underlying22
  cases ao with
  | none =>
    have hl : os = [] := by
      cases os with
      | nil => rfl
      | cons x r =>
        obtain ⟨b, off, hb, _⟩ := ho.at (i := 0) (o := x) rfl
        cases hb
    subst hl
    have hEmp : OrgsAt (h2 w.heap.size wA) (.slice none 0 0) [] := ⟨⟨none, 0, rfl, Nat.le_refl _, by simp⟩, by simp⟩
    repeat (first | (exact tw_r [] rs us ss an w _ _ _ _ _ _ _ _ _ _ ho hr hu hs ha hSm wA he _ hW hR hEmp) | go_values | go_skip | go_guarded | go_step | go_upon | (simp only [Int.not_lt, Int.not_le] at *; go_simp))
  | some ad =>
    have nL := hSm.no
    go_wp2_with (first
      | (at_make; refine wpList_mk _ rfl _ _ 40 rfl 118 _ 3 _ Try.underlying40 Try.infos118 os.length rfl rfl (by omega) (by omega) ?_; intro w0 hb0 hg0; have hW0 := hW.kept hg0 (by simp); have hR0 := hR.kept hg0 (by simp))
      | (refine wpList_st1 _ rfl 40 (.tmp 26) (.tmp 25) rfl (w.heap.size + 1) 0 _ (.slice (some ⟨wA.heap.size, 0, none⟩) os.length os.length) rfl hW0 rfl Try.info40 (by simp) rfl ?_; intro w1 hW1 hg1; have hb1 := hb0.kept hg1 (sne (by omega)); have hR1 := hR0.kept hg1 (sne (by omega))))
    have hl0 := hg0.size
    have he0 : Ext wA w0 := grown_ext (Ext.refl _) hg0 (by simp)
    have he1 : Ext w w1 := ext_st (he.trans he0) hg1 (by omega)
    have hlen1 : (madeCells (Value.cells (.agg #[.string ⟨#[]⟩, .string ⟨#[]⟩, .string ⟨#[]⟩])) (os.length * 3)).toList.length = os.length * 3 := by simp [size_madeCells]
    go_loopw [29] (fun j wr => ∃ (k : Nat) (xs : List Value), j = .int .i64 k ∧ k ≤ os.length ∧ xs.length = os.length * 3 ∧ RowsTo xs 3 ((os.take k).map Org.row) ∧
        Blk wr wA.heap.size xs ∧ Blk wr (w.heap.size + 1) [.slice (some ⟨wA.heap.size, 0, none⟩) os.length os.length, .slice none 0 0, .slice none 0 0, .slice none 0 0, .slice none 0 0, .slice none 0 0] ∧ Blk wr w.heap.size [.slice none 0 0, .slice none 0 0, .slice none 0 0, .slice none 0 0, .slice none 0 0, .slice none 0 0] ∧ Ext w wr) (fun i _ => os.length - (intOf i).toNat)
    case atStart => exact ⟨0, _, rfl, Nat.zero_le _, hlen1, rows_nil _ _, hb1, hW1, hR1, he1⟩
    case round =>
      clear hb0 hg0 hW0 hW1 hg1 hb1 hlen1 he1 he0 hR0 hR1
      obtain ⟨k, xs, rfl, hk, hxl, hrows, hb, hWr, hRr, her⟩ := hrel
      by_cases hlt : k < os.length
      · obtain ⟨o, hoo⟩ := get_at os k hlt
        obtain ⟨bb, off, hao, c0, c1, c2, ok⟩ := ho.at hoo
        cases hao
        obtain ⟨y0, hy0⟩ := get_at xs (k * 3) (by omega)
        obtain ⟨y1, hy1⟩ := get_at xs (k * 3 + 1) (by omega)
        obtain ⟨y2, hy2⟩ := get_at xs (k * 3 + 2) (by omega)
        have k0 : wr.cell? ⟨w.heap.size + 1, 0, none⟩ = some (.slice (some ⟨wA.heap.size, 0, none⟩) os.length os.length) := hWr.cell rfl
        have k1 := her.cell c0
        have k2 := her.cell c1
        have k3 := her.cell c2
        have k4 := hb.cell hy0
        have k5 := hb.cell hy1
        have k6 := hb.cell hy2
        have k8 := hb.frozen
        have HROWS : Hid (RowsTo (setR xs (k * 3) o.row) 3 ((os.take (k + 1)).map Org.row)) := by
          have hlen : ((os.take k).map Org.row).length = k := by simp; omega
          have := rows_snoc (row := o.row) hrows (by intro x hx'; obtain ⟨u, _, rfl⟩ := List.mem_map.1 hx'; rfl) rfl (by rw [hlen]; omega)
          rw [hlen] at this
          rw [map_take_succ Org.row hoo]
          exact this
        clear hoo c0 c1 c2 hrows hy0 hy1 hy2
        go_upto_region 7 with fail
        go_big_region
        go_wp2
        have hbs := stAll_blk [.string o.id, .string o.name, .string o.parent] wr wA.heap.size (k * 3) xs hb (by simp; omega)
        have hgd := grown_drew hbs.2
        go_roundw
        case rel =>
          refine ⟨k + 1, _, by go_num, by omega, ?_, HROWS.out, hbs.1.drew, hWr.kept hgd (sne (by omega)), hRr.kept hgd (sne (by omega)), ext_st her hgd (by omega)⟩
          rw [setR_len (by simp [Org.row]; omega)]; exact hxl
        case measure => simp [intOf]; omega
      · obtain rfl : k = os.length := by omega
        have hAt : OrgsAt (h2 w.heap.size wr) (.slice (some ⟨wA.heap.size, 0, none⟩) os.length os.length) os := by
          rw [List.take_length] at hrows
          exact ⟨(hb.h2 (by omega)).rows (by simp) hrows, ho.2⟩
        clear hrows hxl hb
        repeat (first | (exact tw_r os rs us ss an w _ _ _ _ _ _ _ _ _ _ ho hr hu hs ha hSm wr her _ hWr hRr hAt) | go_values | go_skip | go_guarded | go_step | go_upon | (simp only [Int.not_lt, Int.not_le] at *; go_simp))
set_option maxRecDepth 1000000 in
set_option maxHeartbeats 16000000 in
theorem toWorld_any (vo vr vu vs va : Value) (os : List Org) (rs : List Role) (us : List User) (ss : List Share) (an : List ByteArray) (w : World) (ho : OrgsAt w vo os) (hr : RolesAt w vr rs) (hu : UsersAt w vu us) (hs : SharesAt w vs ss) (ha : StrsAt w va an) (hSm : Small os rs us ss an) :
    Calls Try.prog 11 #[vo, vr, vu, vs, .slice none 0 0, va] w (ToWPost os rs us ss an w) := by
  obtain ⟨ao, co, rfl, hco⟩ := ho.shape
  obtain ⟨ar, cr, rfl, hcr⟩ := hr.shape
  obtain ⟨au, cu, rfl, hcu⟩ := hu.shape
  obtain ⟨ash, csh, rfl, hcs⟩ := hs.shape
  obtain ⟨aa, ca, rfl, hca⟩ := ha.shape
  clear hco hcr hcu hcs hca
  have hR0 : Blk (w.alloc (.cells #[.slice none 0 0, .slice none 0 0, .slice none 0 0, .slice none 0 0, .slice none 0 0, .slice none 0 0] 48)) w.heap.size [.slice none 0 0, .slice none 0 0, .slice none 0 0, .slice none 0 0, .slice none 0 0, .slice none 0 0] := Blk.alloc w [.slice none 0 0, .slice none 0 0, .slice none 0 0, .slice none 0 0, .slice none 0 0, .slice none 0 0] 48
  have hR1 := hR0.ext (Ext.alloc _ (.cells #[.slice none 0 0, .slice none 0 0, .slice none 0 0, .slice none 0 0, .slice none 0 0, .slice none 0 0] 48))
  have hW1 : Blk ((w.alloc (.cells #[.slice none 0 0, .slice none 0 0, .slice none 0 0, .slice none 0 0, .slice none 0 0, .slice none 0 0] 48)).alloc (.cells #[.slice none 0 0, .slice none 0 0, .slice none 0 0, .slice none 0 0, .slice none 0 0, .slice none 0 0] 48)) (w.heap.size + 1) [.slice none 0 0, .slice none 0 0, .slice none 0 0, .slice none 0 0, .slice none 0 0, .slice none 0 0] := by
    have := Blk.alloc (w.alloc (.cells #[.slice none 0 0, .slice none 0 0, .slice none 0 0, .slice none 0 0, .slice none 0 0, .slice none 0 0] 48)) [.slice none 0 0, .slice none 0 0, .slice none 0 0, .slice none 0 0, .slice none 0 0, .slice none 0 0] 48
    have e : (w.alloc (.cells #[.slice none 0 0, .slice none 0 0, .slice none 0 0, .slice none 0 0, .slice none 0 0, .slice none 0 0] 48)).heap.size = w.heap.size + 1 := by simp
    rw [e] at this
    exact this
  have he : Ext w ((w.alloc (.cells #[.slice none 0 0, .slice none 0 0, .slice none 0 0, .slice none 0 0, .slice none 0 0, .slice none 0 0] 48)).alloc (.cells #[.slice none 0 0, .slice none 0 0, .slice none 0 0, .slice none 0 0, .slice none 0 0, .slice none 0 0] 48)) := (Ext.alloc w _).trans (Ext.alloc _ _)
  go_enter Try.func11, Try.ntmps11
  repeat (first | (exact tw_o os rs us ss an w _ _ _ _ _ _ _ _ _ _ ho hr hu hs ha hSm _ he hW1 hR1) | go_values | go_skip | go_guarded | go_step | go_upon | (simp only [Int.not_lt, Int.not_le] at *; go_simp))
end Go.Proofs.Qxb6609292a
