/-
  THE WALK of toWorld, seat b6609292a (laid by a script of this seat's).
-/
import Derived.Test.Qxb6609292aWorldE
set_option linter.unusedVariables false
set_option linter.unusedSimpArgs false
namespace Go.Proofs.Qxb6609292a
open Go.RowKit Go.Maps

set_option maxRecDepth 1000000 in
set_option maxHeartbeats 16000000 in
theorem tw_s {x6 x7 x8 x9 x10 x11 x14 x15 x16 x17 x18 x19 x20 x21 x22 x23 x24 x25 x26 x27 x28 x29 x30 x31 x32 x33 x34 x35 x36 x37 x38 x39 x40 x41 x42 x43 x44 x45 x46 x47 x48 x49 x50 x51 x52 x53 x54 x55 x56 x57 x58 x59 x60 x61 x62 x63 x64 x65 x66 x67 x68 x69 x70 x71 x72 x73 x74 x75 x76 x77 x78 x79 x80 x81 x82 x83 x84 x85 x86 x87 x88 x89 x90 x91 x92 x93 x94 x95 x96 x97 x98 x99 x100 x101 x102 x103 x104 x105 x106 x107 x108 x109 x110 x111 x112 x113 x114 x115 x116 x117 x118 x119 x120 x121 x122 x123 x124 x125 x126 x127 x128 x129 x130 x131 x132 x133 x134 x135 x136 x137 x138 x139 x140 x141 x142 x143 x144 x145 x146 x147 x148 x149 x150 x151 x152 x153 x154 x155 x156 x157 x158 x159 x160 x161 x162 x163 x164 x165 x166 x167 x168 x169 x170 x171 x172 x173 x174 x175 x176 x177 x178 x179 x180 x181 x182 x183 x184 x185 x186 x187 x188 x189 x190 x191 x192 x193 x194 x195 x196 x197 x198 x199 x200 x201 x202 x203 x204 x205 x206 x207 x208 x209 x210 x211 x212 x213 x214 x215 x216 x217 x218 x219 x220 x221 x222 x223 x224 x225 x226 x227 x228 x229 x230 x231 x232 x233 x234 x235 x236 x237 x238 x239 x240 : Value} (os : List Org) (rs : List Role) (us : List User) (ss : List Share) (an : List ByteArray) (w : World) (ao ar au ash aa : Option Addr) (co cr cu csh ca : Nat) (ho : OrgsAt w (.slice ao os.length co) os) (hr : RolesAt w (.slice ar rs.length cr) rs) (hu : UsersAt w (.slice au us.length cu) us) (hs : SharesAt w (.slice ash ss.length csh) ss) (ha : StrsAt w (.slice aa an.length ca) an) (hSm : Small os rs us ss an)
    (wA : World) (he : Ext w wA) (vO vR vU : Value) (hW : Blk wA (w.heap.size + 1) [vO, vR, vU, .slice none 0 0, .slice none 0 0, .slice none 0 0]) (hR : Blk wA w.heap.size [.slice none 0 0, .slice none 0 0, .slice none 0 0, .slice none 0 0, .slice none 0 0, .slice none 0 0]) (hO : OrgsAt (h2 w.heap.size wA) vO os) (rs1 : List Role) (hRo : RolesM (h2 w.heap.size wA) vR rs1) (hcR : Hid (rs1.map Role.core = rs.map Role.core)) (us1 : List User) (hUs : UsersAt (h2 w.heap.size wA) vU us1) (hcU : Hid (us1.map User.core = us.map User.core)) :
    Code.wp Try.prog (dropSeq 5 (Try.f11.body.getD .skip)) (bodyPost Try.prog Try.f11 (ToWPost os rs us ss an w)) ⟨#[.slice ao os.length co, .slice ar rs.length cr, .slice au us.length cu, .slice ash ss.length csh, .slice none 0 0, .slice aa an.length ca, x6, x7, x8, x9, x10, x11, .pointer (some ⟨w.heap.size, 0, none⟩), .pointer (some ⟨w.heap.size + 1, 0, none⟩), x14, x15, x16, x17, x18, x19, x20, x21, x22, x23, x24, x25, x26, x27, x28, x29, x30, x31, x32, x33, x34, x35, x36, x37, x38, x39, x40, x41, x42, x43, x44, x45, x46, x47, x48, x49, x50, x51, x52, x53, x54, x55, x56, x57, x58, x59, x60, x61, x62, x63, x64, x65, x66, x67, x68, x69, x70, x71, x72, x73, x74, x75, x76, x77, x78, x79, x80, x81, x82, x83, x84, x85, x86, x87, x88, x89, x90, x91, x92, x93, x94, x95, x96, x97, x98, x99, x100, x101, x102, x103, x104, x105, x106, x107, x108, x109, x110, x111, x112, x113, x114, x115, x116, x117, x118, x119, x120, x121, x122, x123, x124, x125, x126, x127, x128, x129, x130, x131, x132, x133, x134, x135, x136, x137, x138, x139, x140, x141, x142, x143, x144, x145, x146, x147, x148, x149, x150, x151, x152, x153, x154, x155, x156, x157, x158, x159, x160, x161, x162, x163, x164, x165, x166, x167, x168, x169, x170, x171, x172, x173, x174, x175, x176, x177, x178, x179, x180, x181, x182, x183, x184, x185, x186, x187, x188, x189, x190, x191, x192, x193, x194, x195, x196, x197, x198, x199, x200, x201, x202, x203, x204, x205, x206, x207, x208, x209, x210, x211, x212, x213, x214, x215, x216, x217, x218, x219, x220, x221, x222, x223, x224, x225, x226, x227, x228, x229, x230, x231, x232, x233, x234, x235, x236, x237, x238, x239, x240], []⟩ wA := by
  conv => arg 2; whnf
  have hWl := hW.lt
  have hnil := neqS 25 78 Try.underlying25
  cases ash with
  | none =>
    have hl : ss = [] := by
      cases ss with
      | nil => rfl
      | cons x r =>
        obtain ⟨b, off, hb, _⟩ := hs.at (i := 0) (o := x) rfl
        cases hb
    subst hl
    have hEmp : SharesAt (h2 w.heap.size wA) (.slice none 0 0) [] := ⟨⟨none, 0, rfl, Nat.le_refl _, by simp⟩, by simp⟩
    repeat (first | (exact tw_e os rs us [] an w _ _ _ _ _ _ _ _ _ _ ho hr hu hs ha hSm wA he _ _ _ _ hW hR hO rs1 hRo hcR us1 hUs hcU [] hEmp rfl) | go_values | go_skip | go_guarded | go_step | go_upon | (simp only [Int.not_lt, Int.not_le] at *; go_simp))
  | some ad =>
    have nL := hSm.ns
    go_wp2_with (first
      | (at_make; refine wpList_mk _ rfl _ _ 43 rfl 103 _ 5 _ Try.underlying43 Try.infos103 ss.length rfl rfl (by omega) (by omega) ?_; intro w0 hb0 hg0; have hW0 := hW.kept hg0 (by simp); have hR0 := hR.kept hg0 (by simp))
      | (refine wpList_st1 _ rfl 43 (.tmp 161) (.tmp 160) rfl (w.heap.size + 1) 3 _ (.slice (some ⟨wA.heap.size, 0, none⟩) ss.length ss.length) rfl hW0 rfl Try.info43 (by simp) rfl ?_; intro w1 hW1 hg1; have hb1 := hb0.kept hg1 (sne (by omega)); have hR1 := hR0.kept hg1 (sne (by omega))))
    have hl0 := hg0.size
    have he0 : Ext wA w0 := grown_ext (Ext.refl _) hg0 (by simp)
    have he1 : Ext w w1 := ext_st (he.trans he0) hg1 (by omega)
    have hE1 : Ext (h2 w.heap.size wA) (h2 w.heap.size w1) := (h2_ext hWl he0).trans (h2_stW (by omega) hg1)
    have hlen1 : (madeCells (Value.cells (.agg #[.string ⟨#[]⟩, .string ⟨#[]⟩, .string ⟨#[]⟩, .slice none 0 0, .string ⟨#[]⟩])) (ss.length * 5)).toList.length = ss.length * 5 := by simp [size_madeCells]
    go_loopw [164] (fun j wr => ∃ (k : Nat) (xs : List Value) (ls : List Share), j = .int .i64 k ∧ k ≤ ss.length ∧ xs.length = ss.length * 5 ∧ Hid (ls.length = k) ∧ RowsTo xs 5 (ls.map Share.row) ∧ Hid (ls.map Share.core = (ss.take k).map Share.core) ∧ (∀ u ∈ ls, okStr u.id ∧ okStr u.owner ∧ okStr u.dest ∧ okStr u.by_ ∧ StrsIn wr (wA.heap.size + 1) u.pv u.perms) ∧
        Blk wr wA.heap.size xs ∧ Blk wr (w.heap.size + 1) [vO, vR, vU, .slice (some ⟨wA.heap.size, 0, none⟩) ss.length ss.length, .slice none 0 0, .slice none 0 0] ∧ Blk wr w.heap.size [.slice none 0 0, .slice none 0 0, .slice none 0 0, .slice none 0 0, .slice none 0 0, .slice none 0 0] ∧ Ext w wr ∧ Ext (h2 w.heap.size wA) (h2 w.heap.size wr) ∧ wA.heap.size < wr.heap.size) (fun i _ => ss.length - (intOf i).toNat)
    case atStart => exact ⟨0, _, [], rfl, Nat.zero_le _, hlen1, rfl, rows_nil _ _, rfl, by simp, hb1, hW1, hR1, he1, hE1, hb1.lt⟩
    case round =>
      clear hb0 hg0 hW0 hW1 hg1 hb1 hlen1 he1 hE1 he0 hR0 hR1
      obtain ⟨k, xs, ls, rfl, hk, hxl, hul, hrows, hcore, hall, hb, hWr, hRr, her, hEr, hAr⟩ := hrel
      by_cases hlt : k < ss.length
      · obtain ⟨o, hoo⟩ := get_at ss k hlt
        obtain ⟨bb, off, hao, c0, c1, c2, c3, c4, ok⟩ := hs.at hoo
        cases hao
        have hl2 := hSm.nsp o (List.mem_of_getElem? hoo)
        have nG1 : w.heap.size + 1 ≠ wA.heap.size := by omega
        have nG2 : bb ≠ wA.heap.size := by have := cell_lt c0; omega
        have cW : ∀ wn, Ext wr wn → wn.cell? ⟨w.heap.size + 1, 3, none⟩ = some (.slice (some ⟨wA.heap.size, 0, none⟩) ss.length ss.length) := fun wn h => (hWr.ext h).cell rfl
        have C0 : ∀ wn, Ext wr wn → wn.cell? ⟨bb, off + k * 5, none⟩ = some (.string o.id) := fun wn h => (her.trans h).cell c0
        have C1 : ∀ wn, Ext wr wn → wn.cell? ⟨bb, off + k * 5 + 1, none⟩ = some (.string o.owner) := fun wn h => (her.trans h).cell c1
        have C2 : ∀ wn, Ext wr wn → wn.cell? ⟨bb, off + k * 5 + 2, none⟩ = some (.string o.dest) := fun wn h => (her.trans h).cell c2
        have C3 : ∀ wn, Ext wr wn → wn.cell? ⟨bb, off + k * 5 + 3, none⟩ = some (o.pv) := fun wn h => (her.trans h).cell c3
        have C4 : ∀ wn, Ext wr wn → wn.cell? ⟨bb, off + k * 5 + 4, none⟩ = some (.string o.by_) := fun wn h => (her.trans h).cell c4
        obtain ⟨y0, hy0⟩ := get_at xs (k * 5) (by omega)
        have G0 : ∀ wn, Ext wr wn → wn.cell? ⟨wA.heap.size, k * 5, none⟩ = some y0 := fun wn h => (hb.ext h).cell hy0
        obtain ⟨y1, hy1⟩ := get_at xs (k * 5 + 1) (by omega)
        have G1 : ∀ wn, Ext wr wn → wn.cell? ⟨wA.heap.size, k * 5 + 1, none⟩ = some y1 := fun wn h => (hb.ext h).cell hy1
        obtain ⟨y2, hy2⟩ := get_at xs (k * 5 + 2) (by omega)
        have G2 : ∀ wn, Ext wr wn → wn.cell? ⟨wA.heap.size, k * 5 + 2, none⟩ = some y2 := fun wn h => (hb.ext h).cell hy2
        obtain ⟨y3, hy3⟩ := get_at xs (k * 5 + 3) (by omega)
        have G3 : ∀ wn, Ext wr wn → wn.cell? ⟨wA.heap.size, k * 5 + 3, none⟩ = some y3 := fun wn h => (hb.ext h).cell hy3
        obtain ⟨y4, hy4⟩ := get_at xs (k * 5 + 4) (by omega)
        have G4 : ∀ wn, Ext wr wn → wn.cell? ⟨wA.heap.size, k * 5 + 4, none⟩ = some y4 := fun wn h => (hb.ext h).cell hy4
        have GF : ∀ wn i, Ext wr wn → wn.frozen? ⟨wA.heap.size, i, none⟩ = false := fun wn i h => (hb.ext h).frozen i
        have hRd : Ext wr wr.drew := (Ext.refl wr).drawn
        have HOO : Hid (ss[k]? = some o) := hoo
        have HROWS : Hid (RowsTo xs 5 (ls.map Share.row)) := hrows
        have HALL : Hid (∀ u ∈ ls, okStr u.id ∧ okStr u.owner ∧ okStr u.dest ∧ okStr u.by_ ∧ StrsIn wr (wA.heap.size + 1) u.pv u.perms) := hall
        clear hoo c0 c1 c2 c3 c4 hrows hall hy0 hy1 hy2 hy3 hy4
        go_upto_region 36 with fail
        go_region_held3 (fun w' => w'.cell? ⟨w.heap.size + 1, 3, none⟩ = some (.slice (some ⟨wA.heap.size, 0, none⟩) ss.length ss.length) ∧ w'.cell? ⟨bb, off + k * 5, none⟩ = some (.string o.id) ∧ w'.cell? ⟨bb, off + k * 5 + 1, none⟩ = some (.string o.owner) ∧ w'.cell? ⟨bb, off + k * 5 + 2, none⟩ = some (.string o.dest) ∧ w'.cell? ⟨bb, off + k * 5 + 3, none⟩ = some (o.pv) ∧ w'.cell? ⟨bb, off + k * 5 + 4, none⟩ = some (.string o.by_)) (first | (exact ⟨cW _ heC, C0 _ heC, C1 _ heC, C2 _ heC, C3 _ heC, C4 _ heC⟩) | (exact ⟨far1 nG1 (far1 nG1 (far1 nG1 (far1 nG1 (far1 nG1 (cW _ heC))))), far1 nG2 (far1 nG2 (far1 nG2 (far1 nG2 (far1 nG2 (C0 _ heC))))), far1 nG2 (far1 nG2 (far1 nG2 (far1 nG2 (far1 nG2 (C1 _ heC))))), far1 nG2 (far1 nG2 (far1 nG2 (far1 nG2 (far1 nG2 (C2 _ heC))))), far1 nG2 (far1 nG2 (far1 nG2 (far1 nG2 (far1 nG2 (C3 _ heC))))), far1 nG2 (far1 nG2 (far1 nG2 (far1 nG2 (far1 nG2 (C4 _ heC)))))⟩) | go_keep) ((go_at_call 44; refine (clone_in _ o.perms _ (ok.2.2.2.2.ext (her.trans hRd)) hl2).mono ?_; rintro e wc ⟨v', rfl, hin, hec⟩; obtain ⟨av, cv, rfl, hcv⟩ := hin.at_.shape; have heC := hRd.trans hec))
        go_wp2
        have hbs := stAll_blk [.string o.id, .string o.owner, .string o.dest, .slice av o.perms.length cv, .string o.by_] wc wA.heap.size (k * 5) xs (hb.ext heC) (by simp; omega)
        have hlc := heC.size
        have hin' : StrsIn wc (wA.heap.size + 1) (.slice av o.perms.length cv) o.perms := hin.mono hAr
        have hrs := rows_snoc (row := [.string o.id, .string o.owner, .string o.dest, .slice av o.perms.length cv, .string o.by_]) HROWS.out (by intro x hx; obtain ⟨u, _, rfl⟩ := List.mem_map.1 hx; rfl) rfl (by rw [List.length_map, hul.out, hxl]; have : (k + 1) * 5 ≤ ss.length * 5 := Nat.mul_le_mul_right 5 hlt; rw [Nat.succ_mul] at this; exact this)
        rw [List.length_map, hul.out] at hrs
        go_roundw
        case rel =>
          refine ⟨k + 1, _, ls ++ [{ o with pv := .slice av o.perms.length cv }], by go_num, by omega, ?_, ?_, ?_, ?_, ?_, hbs.1, (hWr.ext heC).kept hbs.2 (sne (by omega)), (hRr.ext heC).kept hbs.2 (sne (by omega)), ext_st (her.trans heC) hbs.2 (by omega), h2_stG (by omega) (hEr.trans (h2_ext (by omega) heC)) hbs.2 (Nat.le_refl _), ?_⟩
          · rw [setR_len (by simp; omega)]; exact hxl
          · show _ = _
            rw [List.length_append, hul.out]; rfl
          · rw [List.map_append]; exact hrs
          · show _ = _
            rw [List.map_append, hcore.out, map_take_succ Share.core HOO.out]; rfl
          · intro u hu'
            rcases List.mem_append.1 hu' with h | h
            · exact ⟨(HALL.out u h).1, (HALL.out u h).2.1, (HALL.out u h).2.2.1, (HALL.out u h).2.2.2.1, ((HALL.out u h).2.2.2.2.ext heC).kept hbs.2 (Nat.lt_succ_self _)⟩
            · simp at h
              subst h
              exact ⟨ok.1, ok.2.1, ok.2.2.1, ok.2.2.2.1, hin'.kept hbs.2 (Nat.lt_succ_self _)⟩
          · exact Nat.lt_of_lt_of_le (m := wc.heap.size) (by omega) hbs.2.size
        case measure => simp [intOf]; omega
      · obtain rfl : k = ss.length := by omega
        have hAt : SharesAt (h2 w.heap.size wr) (.slice (some ⟨wA.heap.size, 0, none⟩) ss.length ss.length) ls := by
          refine ⟨(hb.h2 (by omega)).rows (by rw [List.length_map, hul.out]) hrows, fun u hu' => ?_⟩
          have := hall u hu'
          exact ⟨this.1, this.2.1, this.2.2.1, this.2.2.2.1, (this.2.2.2.2.h2 (by omega)).at_⟩
        have hC : Hid (ls.map Share.core = ss.map Share.core) := by show _ = _; rw [hcore.out, List.take_length]
        clear hul hrows hcore hall hxl hb
        repeat (first | (exact tw_e os rs us ss an w _ _ _ _ _ _ _ _ _ _ ho hr hu hs ha hSm wr her _ _ _ _ hWr hRr (hO.ext hEr) rs1 (hRo.ext hEr) hcR us1 (hUs.ext hEr) hcU ls hAt hC) | go_values | go_skip | go_guarded | go_step | go_upon | (simp only [Int.not_lt, Int.not_le] at *; go_simp))
end Go.Proofs.Qxb6609292a
