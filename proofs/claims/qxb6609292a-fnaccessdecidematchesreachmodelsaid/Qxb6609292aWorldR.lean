/-
  THE WALK of toWorld, seat b6609292a (laid by a script of this seat's).
-/
import Derived.Test.Qxb6609292aWorldU
set_option linter.unusedVariables false
set_option linter.unusedSimpArgs false
namespace Go.Proofs.Qxb6609292a
open Go.RowKit Go.Maps

set_option maxRecDepth 1000000 in
set_option maxHeartbeats 16000000 in
theorem tw_r {x6 x7 x8 x9 x10 x11 x14 x15 x16 x17 x18 x19 x20 x21 x22 x23 x24 x25 x26 x27 x28 x29 x30 x31 x32 x33 x34 x35 x36 x37 x38 x39 x40 x41 x42 x43 x44 x45 x46 x47 x48 x49 x50 x51 x52 x53 x54 x55 x56 x57 x58 x59 x60 x61 x62 x63 x64 x65 x66 x67 x68 x69 x70 x71 x72 x73 x74 x75 x76 x77 x78 x79 x80 x81 x82 x83 x84 x85 x86 x87 x88 x89 x90 x91 x92 x93 x94 x95 x96 x97 x98 x99 x100 x101 x102 x103 x104 x105 x106 x107 x108 x109 x110 x111 x112 x113 x114 x115 x116 x117 x118 x119 x120 x121 x122 x123 x124 x125 x126 x127 x128 x129 x130 x131 x132 x133 x134 x135 x136 x137 x138 x139 x140 x141 x142 x143 x144 x145 x146 x147 x148 x149 x150 x151 x152 x153 x154 x155 x156 x157 x158 x159 x160 x161 x162 x163 x164 x165 x166 x167 x168 x169 x170 x171 x172 x173 x174 x175 x176 x177 x178 x179 x180 x181 x182 x183 x184 x185 x186 x187 x188 x189 x190 x191 x192 x193 x194 x195 x196 x197 x198 x199 x200 x201 x202 x203 x204 x205 x206 x207 x208 x209 x210 x211 x212 x213 x214 x215 x216 x217 x218 x219 x220 x221 x222 x223 x224 x225 x226 x227 x228 x229 x230 x231 x232 x233 x234 x235 x236 x237 x238 x239 x240 : Value} (os : List Org) (rs : List Role) (us : List User) (ss : List Share) (an : List ByteArray) (w : World) (ao ar au ash aa : Option Addr) (co cr cu csh ca : Nat) (ho : OrgsAt w (.slice ao os.length co) os) (hr : RolesAt w (.slice ar rs.length cr) rs) (hu : UsersAt w (.slice au us.length cu) us) (hs : SharesAt w (.slice ash ss.length csh) ss) (ha : StrsAt w (.slice aa an.length ca) an) (hSm : Small os rs us ss an)
    (wA : World) (he : Ext w wA) (vO : Value) (hW : Blk wA (w.heap.size + 1) [vO, .slice none 0 0, .slice none 0 0, .slice none 0 0, .slice none 0 0, .slice none 0 0]) (hR : Blk wA w.heap.size [.slice none 0 0, .slice none 0 0, .slice none 0 0, .slice none 0 0, .slice none 0 0, .slice none 0 0]) (hO : OrgsAt (h2 w.heap.size wA) vO os) :
    Code.wp Try.prog (dropSeq 3 (Try.f11.body.getD .skip)) (bodyPost Try.prog Try.f11 (ToWPost os rs us ss an w)) ⟨#[.slice ao os.length co, .slice ar rs.length cr, .slice au us.length cu, .slice ash ss.length csh, .slice none 0 0, .slice aa an.length ca, x6, x7, x8, x9, x10, x11, .pointer (some ⟨w.heap.size, 0, none⟩), .pointer (some ⟨w.heap.size + 1, 0, none⟩), x14, x15, x16, x17, x18, x19, x20, x21, x22, x23, x24, x25, x26, x27, x28, x29, x30, x31, x32, x33, x34, x35, x36, x37, x38, x39, x40, x41, x42, x43, x44, x45, x46, x47, x48, x49, x50, x51, x52, x53, x54, x55, x56, x57, x58, x59, x60, x61, x62, x63, x64, x65, x66, x67, x68, x69, x70, x71, x72, x73, x74, x75, x76, x77, x78, x79, x80, x81, x82, x83, x84, x85, x86, x87, x88, x89, x90, x91, x92, x93, x94, x95, x96, x97, x98, x99, x100, x101, x102, x103, x104, x105, x106, x107, x108, x109, x110, x111, x112, x113, x114, x115, x116, x117, x118, x119, x120, x121, x122, x123, x124, x125, x126, x127, x128, x129, x130, x131, x132, x133, x134, x135, x136, x137, x138, x139, x140, x141, x142, x143, x144, x145, x146, x147, x148, x149, x150, x151, x152, x153, x154, x155, x156, x157, x158, x159, x160, x161, x162, x163, x164, x165, x166, x167, x168, x169, x170, x171, x172, x173, x174, x175, x176, x177, x178, x179, x180, x181, x182, x183, x184, x185, x186, x187, x188, x189, x190, x191, x192, x193, x194, x195, x196, x197, x198, x199, x200, x201, x202, x203, x204, x205, x206, x207, x208, x209, x210, x211, x212, x213, x214, x215, x216, x217, x218, x219, x220, x221, x222, x223, x224, x225, x226, x227, x228, x229, x230, x231, x232, x233, x234, x235, x236, x237, x238, x239, x240], []⟩ wA := by
  conv => arg 2; whnf
  have hWl := hW.lt
  have hnil := neqS 23 65 Try.underlying23
  have hnil2 := neqS 63 74 Try.underlying63
  have hmm := run_makeMap_hint 95 9 53 Try.underlying95
  cases ar with
  | none =>
    have hl : rs = [] := by
      cases rs with
      | nil => rfl
      | cons x r =>
        obtain ⟨b, off, hb, _⟩ := hr.at (i := 0) (o := x) rfl
        cases hb
    subst hl
    have hEmp : RolesM (h2 w.heap.size wA) (.slice none 0 0) [] := ⟨⟨none, 0, rfl, Nat.le_refl _, by simp⟩, by simp⟩
    repeat (first | (exact tw_u os [] us ss an w _ _ _ _ _ _ _ _ _ _ ho hr hu hs ha hSm wA he _ _ hW hR hO [] hEmp rfl) | go_values | go_skip | go_guarded | go_step | go_upon | (simp only [Int.not_lt, Int.not_le] at *; go_simp))
  | some ad =>
    have nL := hSm.nr
    go_wp2_with (first
      | (at_make; refine wpList_mk _ rfl _ _ 41 rfl 97 _ 4 _ Try.underlying41 Try.infos97 rs.length rfl rfl (by omega) (by omega) ?_; intro w0 hb0 hg0; have hW0 := hW.kept hg0 (by simp); have hR0 := hR.kept hg0 (by simp))
      | (refine wpList_st1 _ rfl 41 (.tmp 58) (.tmp 57) rfl (w.heap.size + 1) 1 _ (.slice (some ⟨wA.heap.size, 0, none⟩) rs.length rs.length) rfl hW0 rfl Try.info41 (by simp) rfl ?_; intro w1 hW1 hg1; have hb1 := hb0.kept hg1 (sne (by omega)); have hR1 := hR0.kept hg1 (sne (by omega))))
    have hl0 := hg0.size
    have he0 : Ext wA w0 := grown_ext (Ext.refl _) hg0 (by simp)
    have he1 : Ext w w1 := ext_st (he.trans he0) hg1 (by omega)
    have hE1 : Ext (h2 w.heap.size wA) (h2 w.heap.size w1) := (h2_ext hWl he0).trans (h2_stW (by omega) hg1)
    have hlen1 : (madeCells (Value.cells (.agg #[.string ⟨#[]⟩, .string ⟨#[]⟩, .string ⟨#[]⟩, .map none])) (rs.length * 4)).toList.length = rs.length * 4 := by simp [size_madeCells]
    go_loopw [61] (fun j wr => ∃ (k : Nat) (xs : List Value) (ls : List Role), j = .int .i64 k ∧ k ≤ rs.length ∧ xs.length = rs.length * 4 ∧ Hid (ls.length = k) ∧ RowsTo xs 4 (ls.map Role.row) ∧ Hid (ls.map Role.core = (rs.take k).map Role.core) ∧ (∀ u ∈ ls, okStr u.id ∧ okStr u.name ∧ okStr u.org ∧ (∀ g ∈ u.grants, okStr g.name ∧ wf64 g.scope) ∧ MapIn wr (wA.heap.size + 1) u.gv u.grants) ∧
        Blk wr wA.heap.size xs ∧ Blk wr (w.heap.size + 1) [vO, .slice (some ⟨wA.heap.size, 0, none⟩) rs.length rs.length, .slice none 0 0, .slice none 0 0, .slice none 0 0, .slice none 0 0] ∧ Blk wr w.heap.size [.slice none 0 0, .slice none 0 0, .slice none 0 0, .slice none 0 0, .slice none 0 0, .slice none 0 0] ∧ Ext w wr ∧ Ext (h2 w.heap.size wA) (h2 w.heap.size wr) ∧ wA.heap.size < wr.heap.size) (fun i _ => rs.length - (intOf i).toNat)
    case atStart => exact ⟨0, _, [], rfl, Nat.zero_le _, hlen1, rfl, rows_nil _ _, rfl, by simp, hb1, hW1, hR1, he1, hE1, hb1.lt⟩
    case round =>
      clear hb0 hg0 hW0 hW1 hg1 hb1 hlen1 he1 hE1 he0 hR0 hR1
      obtain ⟨k, xs, ls, rfl, hk, hxl, hul, hrows, hcore, hall, hb, hWr, hRr, her, hEr, hAr⟩ := hrel
      by_cases hlt : k < rs.length
      · obtain ⟨o, hoo⟩ := get_at rs k hlt
        obtain ⟨bb, off, hao, c0, c1, c2, c3, ok⟩ := hr.at hoo
        cases hao
        have hl2 := hSm.ng o (List.mem_of_getElem? hoo)
        have hG := ok.2.2.2
        obtain ⟨ga, gc, hgv, hgc⟩ := hG.shape
        rw [hgv] at c3 hG
        have HOO : Hid (rs[k]? = some o) := hoo
        have HROWS : Hid (RowsTo xs 4 (ls.map Role.row)) := hrows
        have HALL : Hid (∀ u ∈ ls, okStr u.id ∧ okStr u.name ∧ okStr u.org ∧ (∀ g ∈ u.grants, okStr g.name ∧ wf64 g.scope) ∧ MapIn wr (wA.heap.size + 1) u.gv u.grants) := hall
        have HOK : Hid (okStr o.id ∧ okStr o.name ∧ okStr o.org ∧ ∀ g ∈ o.grants, okStr g.name ∧ wf64 g.scope) := ⟨ok.1, ok.2.1, ok.2.2.1, hG.2⟩
        rename World => WO
        obtain ⟨y0, hy0⟩ := get_at xs (k * 4) (by omega)
        obtain ⟨y1, hy1⟩ := get_at xs (k * 4 + 1) (by omega)
        obtain ⟨y2, hy2⟩ := get_at xs (k * 4 + 2) (by omega)
        obtain ⟨y3, hy3⟩ := get_at xs (k * 4 + 3) (by omega)
        have cW : ∀ wn, Ext WO wn → wn.cell? ⟨w.heap.size + 1, 1, none⟩ = some (.slice (some ⟨wA.heap.size, 0, none⟩) rs.length rs.length) := fun wn h => (hWr.ext h).cell rfl
        have C0 : ∀ wn, Ext WO wn → wn.cell? ⟨bb, off + k * 4, none⟩ = some (.string o.id) := fun wn h => (her.trans h).cell c0
        have C1 : ∀ wn, Ext WO wn → wn.cell? ⟨bb, off + k * 4 + 1, none⟩ = some (.string o.name) := fun wn h => (her.trans h).cell c1
        have C2 : ∀ wn, Ext WO wn → wn.cell? ⟨bb, off + k * 4 + 2, none⟩ = some (.string o.org) := fun wn h => (her.trans h).cell c2
        have C3 : ∀ wn, Ext WO wn → wn.cell? ⟨bb, off + k * 4 + 3, none⟩ = some (.slice ga o.grants.length gc) := fun wn h => (her.trans h).cell c3
        have G0 : ∀ wn, Ext WO wn → wn.cell? ⟨wA.heap.size, k * 4, none⟩ = some y0 := fun wn h => (hb.ext h).cell hy0
        have G1 : ∀ wn, Ext WO wn → wn.cell? ⟨wA.heap.size, k * 4 + 1, none⟩ = some y1 := fun wn h => (hb.ext h).cell hy1
        have G2 : ∀ wn, Ext WO wn → wn.cell? ⟨wA.heap.size, k * 4 + 2, none⟩ = some y2 := fun wn h => (hb.ext h).cell hy2
        have G3 : ∀ wn, Ext WO wn → wn.cell? ⟨wA.heap.size, k * 4 + 3, none⟩ = some y3 := fun wn h => (hb.ext h).cell hy3
        have GF : ∀ wn i, Ext WO wn → wn.frozen? ⟨wA.heap.size, i, none⟩ = false := fun wn i h => (hb.ext h).frozen i
        clear hoo c0 c1 c2 hrows hall hy0 hy1 hy2 hy3 hgv hgc ok
        cases ga with
        | none =>
          have hgs : o.grants = [] := by
            cases hq : o.grants with
            | nil => rfl
            | cons x r =>
              obtain ⟨b, off, hb, _⟩ := hG.at (i := 0) (o := x) (by rw [hq]; rfl)
              cases hb
          have HGS : Hid (o.grants = []) := hgs
          clear hgs
          have hx := Ext.refl WO
          have k9 := C3 _ hx
          have k0 := cW _ hx
          have k1 := C0 _ hx
          have k2 := C1 _ hx
          have k3 := C2 _ hx
          have k4 := G0 _ hx
          have k5 := G1 _ hx
          have k6 := G2 _ hx
          have k7 := G3 _ hx
          have k8 := fun i => GF _ i hx
          go_upto_region 22 with fail
          go_big_region
          go_wp2
          have hbs := stAll_blk [.string o.id, .string o.name, .string o.org, .map none] WO wA.heap.size (k * 4) xs (hb.ext hx) (by simp; omega)
          have hlc := Ext.size hx
          have hmi : MapIn WO (wA.heap.size + 1) (.map none) o.grants := Or.inl ⟨rfl, HGS.out⟩
          have hrs := rows_snoc (row := [.string o.id, .string o.name, .string o.org, .map none]) HROWS.out (by intro x hx'; obtain ⟨u, _, rfl⟩ := List.mem_map.1 hx'; rfl) rfl (by rw [List.length_map, hul.out, hxl]; have : (k + 1) * 4 ≤ rs.length * 4 := Nat.mul_le_mul_right 4 hlt; rw [Nat.succ_mul] at this; exact this)
          rw [List.length_map, hul.out] at hrs
          have hgd := grown_drew hbs.2
          go_roundw
          case rel =>
            refine ⟨k + 1, _, ls ++ [{ o with gv := .map none }], by go_num, by omega, ?_, ?_, ?_, ?_, ?_, hbs.1.drew, (hWr.ext hx).kept hgd (sne (by omega)), (hRr.ext hx).kept hgd (sne (by omega)), ext_st (her.trans hx) hgd (by omega), h2_stG (by omega) (hEr.trans (h2_ext (by omega) hx)) hgd (Nat.le_refl _), ?_⟩
            · rw [setR_len (by simp; omega)]; exact hxl
            · show _ = _
              rw [List.length_append, hul.out]; rfl
            · rw [List.map_append]; exact hrs
            · show _ = _
              rw [List.map_append, hcore.out, map_take_succ Role.core HOO.out]; rfl
            · intro u hu'
              rcases List.mem_append.1 hu' with h | h
              · exact ⟨(HALL.out u h).1, (HALL.out u h).2.1, (HALL.out u h).2.2.1, (HALL.out u h).2.2.2.1, ((HALL.out u h).2.2.2.2.ext hx).kept hgd (Nat.lt_succ_self _)⟩
              · simp at h
                subst h
                exact ⟨HOK.out.1, HOK.out.2.1, HOK.out.2.2.1, HOK.out.2.2.2, hmi.kept hgd (Nat.lt_succ_self _)⟩
            · exact Nat.lt_of_lt_of_le (m := WO.heap.size) (by omega) hgd.size
          case measure => simp [intOf]; omega
        | some gad =>
          have hx0 := Ext.refl WO
          have k9 := C3 _ hx0
          have k10 := C3 _ (Ext.alloc WO (.map #[] 0))
          go_wp2_with fail
          go_loopw [83] (fun j wr => ∃ q : Nat, j = .int .i64 q ∧ q ≤ o.grants.length ∧ SM wr 53 WO.heap.size q (permF o.grants q) ∧ Ext WO wr) (fun i _ => o.grants.length - (intOf i).toNat)
          case atStart => exact ⟨0, rfl, Nat.zero_le _, SM.made WO 53, Ext.alloc _ _⟩
          case round =>
            clear k9 k10 hmm
            obtain ⟨q, rfl, hq, hsm, hx⟩ := hrel
            have k11 := C3 _ hx
            by_cases hlq : q < o.grants.length
            · obtain ⟨gr, hgr⟩ := get_at o.grants q hlq
              obtain ⟨gb, goff, hga, g0, g1, gok⟩ := hG.at hgr
              cases hga
              have m0 := (her.trans hx).cell g0
              have m1 := (her.trans hx).cell g1
              obtain ⟨w', hrun, hsm', hg'⟩ := (hsm.ext (Ext.refl wr).drawn).put Try.underlying95 (by unfold maxLen; omega) gr.name gok.1 (.int .i64 gr.scope) (plain53 gr.scope gok.2)
              have HGR : Hid (o.grants[q]? = some gr) := hgr
              clear hgr g0 g1
              go_upto_region 20 with fail
              go_big_region
              go_wp2
              go_roundw
              case rel => exact ⟨q + 1, by go_num, by omega, by rw [← permF_succ _ _ _ HGR.out]; exact hsm', ext_st hx.drawn hg' (Nat.le_refl _)⟩
              case measure => simp [intOf]; omega
            · obtain rfl : q = o.grants.length := by omega
              have k0 := cW _ hx
              have k1 := C0 _ hx
              have k2 := C1 _ hx
              have k3 := C2 _ hx
              have k4 := G0 _ hx
              have k5 := G1 _ hx
              have k6 := G2 _ hx
              have k7 := G3 _ hx
              have k8 := fun i => GF _ i hx
              go_upto_region 22 with fail
              go_big_region
              go_wp2
              have hbs := stAll_blk [.string o.id, .string o.name, .string o.org, .map (some WO.heap.size)] wr wA.heap.size (k * 4) xs (hb.ext hx) (by simp; omega)
              have hlc := Ext.size hx
              have hmi : MapIn wr (wA.heap.size + 1) (.map (some WO.heap.size)) o.grants := Or.inr ⟨_, rfl, by omega, hsm⟩
              have hrs := rows_snoc (row := [.string o.id, .string o.name, .string o.org, .map (some WO.heap.size)]) HROWS.out (by intro x hx'; obtain ⟨u, _, rfl⟩ := List.mem_map.1 hx'; rfl) rfl (by rw [List.length_map, hul.out, hxl]; have : (k + 1) * 4 ≤ rs.length * 4 := Nat.mul_le_mul_right 4 hlt; rw [Nat.succ_mul] at this; exact this)
              rw [List.length_map, hul.out] at hrs
              have hgd := grown_drew hbs.2
              go_roundw
              case rel =>
                refine ⟨k + 1, _, ls ++ [{ o with gv := .map (some WO.heap.size) }], by go_num, by omega, ?_, ?_, ?_, ?_, ?_, hbs.1.drew, (hWr.ext hx).kept hgd (sne (by omega)), (hRr.ext hx).kept hgd (sne (by omega)), ext_st (her.trans hx) hgd (by omega), h2_stG (by omega) (hEr.trans (h2_ext (by omega) hx)) hgd (Nat.le_refl _), ?_⟩
                · rw [setR_len (by simp; omega)]; exact hxl
                · show _ = _
                  rw [List.length_append, hul.out]; rfl
                · rw [List.map_append]; exact hrs
                · show _ = _
                  rw [List.map_append, hcore.out, map_take_succ Role.core HOO.out]; rfl
                · intro u hu'
                  rcases List.mem_append.1 hu' with h | h
                  · exact ⟨(HALL.out u h).1, (HALL.out u h).2.1, (HALL.out u h).2.2.1, (HALL.out u h).2.2.2.1, ((HALL.out u h).2.2.2.2.ext hx).kept hgd (Nat.lt_succ_self _)⟩
                  · simp at h
                    subst h
                    exact ⟨HOK.out.1, HOK.out.2.1, HOK.out.2.2.1, HOK.out.2.2.2, hmi.kept hgd (Nat.lt_succ_self _)⟩
                · exact Nat.lt_of_lt_of_le (m := wr.heap.size) (by omega) hgd.size
              case measure => simp [intOf]; omega
      · obtain rfl : k = rs.length := by omega
        have hAt : RolesM (h2 w.heap.size wr) (.slice (some ⟨wA.heap.size, 0, none⟩) rs.length rs.length) ls := by
          refine ⟨(hb.h2 (by omega)).rows (by rw [List.length_map, hul.out]) hrows, fun u hu' => ?_⟩
          have := hall u hu'
          exact ⟨this.1, this.2.1, this.2.2.1, this.2.2.2.1, this.2.2.2.2.h2 (by omega)⟩
        have hC : Hid (ls.map Role.core = rs.map Role.core) := by show _ = _; rw [hcore.out, List.take_length]
        clear hul hrows hcore hall hxl hb
        repeat (first | (exact tw_u os rs us ss an w _ _ _ _ _ _ _ _ _ _ ho hr hu hs ha hSm wr her _ _ hWr hRr (hO.ext hEr) ls hAt hC) | go_values | go_skip | go_guarded | go_step | go_upon | (simp only [Int.not_lt, Int.not_le] at *; go_simp))
end Go.Proofs.Qxb6609292a
