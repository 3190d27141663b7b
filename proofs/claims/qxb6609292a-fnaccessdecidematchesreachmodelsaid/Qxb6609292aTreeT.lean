/-
  WALKS for seat b6609292a: NewTree, its second half.
-/
import Derived.Test.Qxb6609292aTree1
set_option linter.unusedVariables false
set_option linter.unusedSimpArgs false
namespace Go.Proofs.Qxb6609292a
open Go.RowKit Go.Maps

/-- The tree's blocks, as the model's own memory. -/
structure TreeAt (w : World) (T : Nat) (os : List Org) : Prop where
  ex : ∃ gi bp gp gS gM S M sv rv N, Blk w T [.slice (some ⟨gi, 0, none⟩) os.length os.length, .map (some bp), .slice (some ⟨gp, 0, none⟩) os.length os.length, .slice (some ⟨gS, 0, none⟩) (os.length + 1) (os.length + 1), .slice (some ⟨gM, 0, none⟩) (off (parL os) os.length) (off (parL os) os.length), sv, rv] ∧
    SM w 3 bp N (posF (os.map Org.id) (os.map Org.id).length) ∧ Blk w gp ((parL os).map iI) ∧ Grouped (parL os) os.length S M ∧ Blk w gS (S.map iI) ∧ Blk w gM (M.map iI)
theorem StrsAt.stay {w w' : World} {g g' n : Nat} {l : List ByteArray} (h : StrsAt w (.slice (some ⟨g, 0, none⟩) n n) l) (hg : w.grownBy w' (some g')) (hne : g ≠ g') : StrsAt w' (.slice (some ⟨g, 0, none⟩) n n) l := by
  obtain ⟨⟨ao, cap, hv, hc, h2⟩, hok⟩ := h
  refine ⟨⟨ao, cap, hv, hc, fun hnn => ?_⟩, hok⟩
  obtain ⟨b, off, ha, h3⟩ := h2 hnn
  refine ⟨b, off, ha, fun i x hx j u hu => ?_⟩
  have hb : b = g := by
    rw [ha] at hv; simp only [Value.slice.injEq, Option.some.injEq, Addr.mk.injEq] at hv; exact hv.1.1.symm
  exact hg.cell (h3 i x hx j u hu) (by rw [hb]; exact sne hne)
theorem Try.infos136 : (Try.prog.info? 136).map (·.size) = some 7 := by kernel_rfl

theorem Try.info26 : (Try.prog.info? 26).map (·.size) = some 1 := by kernel_rfl
theorem posD_lt0 {ids : List ByteArray} (s : ByteArray) (h : 0 < ids.length) : posD ids s < ids.length := by
  unfold posD
  cases hp : idxTo ids ids.length s with
  | none => exact h
  | some p => exact (idx_some _ _ _ hp).2
def TreePost (os : List Org) (w : World) : Ending → World → Prop := fun e w' => ∃ T, e = .returned (.tuple #[.pointer (some ⟨T, 0, none⟩), .nilIface]) ∧ TreeAt w' T os ∧ Ext w w'
theorem cloneIds (os : List Org) (v : Value) (w : World) (h : StrsAt w v (os.map Org.id)) (hn : os.length ≤ 1048576) :
    Calls Try.prog 42 #[v] w fun e w' => ∃ sa scap, e = .returned (.slice sa os.length scap) ∧ (os ≠ [] → ∃ g cur, sa = some ⟨g, 0, none⟩ ∧ w.heap.size ≤ g ∧ Blk w' g cur ∧ cur.take (((os.map Org.id).map strRow).length * 1) = ((os.map Org.id).map strRow).flatten) ∧ Ext w w' := by
  refine (cloneStrs v (os.map Org.id) w h (by rw [List.length_map]; exact hn)).mono ?_
  rintro e w' ⟨v', rfl, ⟨sa, scap, rfl, _, hcl⟩, hx⟩
  exact ⟨sa, scap, by simp, fun hne => hcl (by simpa using hne), hx⟩
theorem sortIds (os : List Org) (w : World) (B : Nat) (a : Option Addr) (cap : Nat) (hcl : os ≠ [] → ∃ g cur, a = some ⟨g, 0, none⟩ ∧ B ≤ g ∧ Blk w g cur ∧ cur.take (((os.map Org.id).map strRow).length * 1) = ((os.map Org.id).map strRow).flatten) (hok : ∀ s ∈ os.map Org.id, okStr s) (hn : os.length ≤ 1048576) :
    Calls Try.prog 54 #[.slice a os.length cap] w fun e w' => e = .returned (.tuple #[]) ∧ ∃ row, w.grownBy w' row ∧ (∀ k, row = some k → B ≤ k) ∧ ∀ j, j < os.length → ∃ g s, a = some ⟨g, 0, none⟩ ∧ w'.cell? ⟨g, j, none⟩ = some (.string s) ∧ okStr s := by
  have := sortCloned w w B (os.map Org.id) a cap (fun hne => hcl (by simpa using hne)) hok (by rw [List.length_map]; exact hn)
  rw [List.length_map] at this
  exact this
set_option maxRecDepth 1000000 in
set_option maxHeartbeats 3200000 in
theorem newTree_t15 {x0 x1 x2 x3 x4 x6 x7 x10 x11 x13 x14 x15 x16 x17 x18 x19 x20 x21 x22 x23 x24 x25 x26 x27 x28 x29 x30 x31 x32 x33 x34 x35 x36 x37 x38 x39 x40 x41 x42 x43 x44 x45 x46 x47 x48 x49 x50 x51 x52 x53 x54 x55 x56 x57 x58 x59 x60 x61 x62 x63 x64 x65 x66 x67 x68 x69 x70 x71 x72 x73 x74 x75 x76 x77 x78 x79 x80 x81 x82 x83 x84 x85 x86 x87 x88 x89 x90 x91 x92 x93 x94 x95 x96 x97 x98 x99 x100 x101 x102 x103 x104 x105 x106 x107 x108 x109 x110 x111 x112 x113 x114 x115 x116 x117 x118 x119 x120 x121 x122 x123 x124 x125 x126 x127 x128 x129 x130 x131 x132 x133 x134 x135 x136 x137 x138 x139 x140 x141 x142 x143 x144 x145 x146 : Value} (os : List Org) (w : World) (T gi gp bp : Nat) (hn : os.length ≤ 1048576) (b1 : w.heap.size ≤ T) (b2 : w.heap.size ≤ gi) (b3 : w.heap.size ≤ gp) (n1 : bp < gi) (n2 : gi < T) (n3 : T < gp)
    (gS gM gr : Nat) (S M : List Int) (hgr : Hid (Grouped (parL os) os.length S M)) (g1 : gp < gS) (g2 : gp < gM) (sa : Option Addr) (scap : Nat) (w16 : World) (hR16 : Blk w16 gr (List.replicate os.length (.int .i64 0))) (hT16 : Blk w16 T [.slice (some ⟨gi, 0, none⟩) os.length os.length, .map (some bp), .slice (some ⟨gp, 0, none⟩) os.length os.length, .slice (some ⟨gS, 0, none⟩) (os.length + 1) (os.length + 1), .slice (some ⟨gM, 0, none⟩) (Qxb6609292a.off (parL os) os.length) (Qxb6609292a.off (parL os) os.length), .slice sa os.length scap, .slice (some ⟨gr, 0, none⟩) os.length os.length]) (hm16 : SM w16 3 bp os.length (posF (os.map Org.id) (os.map Org.id).length)) (hp16 : Blk w16 gp ((parL os).map iI)) (hS16 : Blk w16 gS (S.map iI)) (hM16 : Blk w16 gM (M.map iI)) (he16 : Ext w w16) (r1 : gM < gr) (r2 : gS < gr)
    (hsrt16 : ∀ j, j < os.length → ∃ g s, sa = some ⟨g, 0, none⟩ ∧ w16.cell? ⟨g, j, none⟩ = some (.string s) ∧ okStr s ∧ g < gr) :
    Code.wp Try.prog (dropSeq 15 (Try.f27.body.getD .skip)) (bodyPost Try.prog Try.f27 (TreePost os w)) ⟨#[x0, x1, x2, x3, x4, .map (some bp), x6, x7, .int .i64 os.length, .pointer (some ⟨T, 0, none⟩), x10, x11, .slice (some ⟨gp, 0, none⟩) os.length os.length, x13, x14, x15, x16, x17, x18, x19, x20, x21, x22, x23, x24, x25, x26, x27, x28, x29, x30, x31, x32, x33, x34, x35, x36, x37, x38, x39, x40, x41, x42, x43, x44, x45, x46, x47, x48, x49, x50, x51, x52, x53, x54, x55, x56, x57, x58, x59, x60, x61, x62, x63, x64, x65, x66, x67, x68, x69, x70, x71, x72, x73, x74, x75, x76, x77, x78, x79, x80, x81, x82, x83, x84, x85, x86, x87, x88, x89, x90, x91, x92, x93, x94, x95, x96, x97, x98, x99, x100, x101, x102, x103, x104, x105, x106, x107, x108, x109, x110, x111, x112, x113, x114, x115, x116, x117, x118, x119, x120, x121, x122, x123, x124, x125, x126, x127, x128, x129, x130, x131, x132, x133, x134, x135, x136, x137, x138, x139, x140, x141, x142, x143, x144, x145, x146], []⟩ w16 := by
  conv => arg 2; whnf
  unfold TreePost
  have k1 := hR16.lt
  have cT6 : w16.cell? ⟨T, 5, none⟩ = some (.slice sa os.length scap) := hT16.cell rfl
  go_wp2_with fail
  go_loopw [131] (fun j wr => ∃ (k : Nat) (xs : List Value), j = .int .i64 k ∧ k ≤ os.length ∧ xs.length = os.length ∧ Blk wr gr xs ∧ Blk wr T [.slice (some ⟨gi, 0, none⟩) os.length os.length, .map (some bp), .slice (some ⟨gp, 0, none⟩) os.length os.length, .slice (some ⟨gS, 0, none⟩) (os.length + 1) (os.length + 1), .slice (some ⟨gM, 0, none⟩) (Qxb6609292a.off (parL os) os.length) (Qxb6609292a.off (parL os) os.length), .slice sa os.length scap, .slice (some ⟨gr, 0, none⟩) os.length os.length] ∧ SM wr 3 bp os.length (posF (os.map Org.id) (os.map Org.id).length) ∧ Blk wr gp ((parL os).map iI) ∧ Blk wr gS (S.map iI) ∧ Blk wr gM (M.map iI) ∧ Ext w wr ∧ (∀ j, j < os.length → ∃ g s, sa = some ⟨g, 0, none⟩ ∧ wr.cell? ⟨g, j, none⟩ = some (.string s) ∧ okStr s ∧ g < gr)) (fun i _ => os.length - (intOf i).toNat)
  case atStart => exact ⟨0, _, rfl, Nat.zero_le _, by simp, hR16, hT16, hm16, hp16, hS16, hM16, he16, hsrt16⟩
  case round =>
    clear hR16 hT16 hm16 hp16 hS16 hM16 he16 hsrt16 cT6
    obtain ⟨k, xs, rfl, hk, hxl, hR, hT, hm, hp, hS, hM, he, hsr⟩ := hrel
    by_cases hlt : k < os.length
    · obtain ⟨g, s, rfl, c0, ok, hgk⟩ := hsr k hlt
      have cT6 : wr.cell? ⟨T, 6, none⟩ = some (.slice (some ⟨gr, 0, none⟩) os.length os.length) := hT.cell rfl
      have hlk := (hm.ext (Ext.refl _).drawn).posD ok
      have hpd := posD_lt0 (ids := os.map Org.id) s (by rw [List.length_map]; omega)
      rw [List.length_map] at hpd
      obtain ⟨y, hy⟩ := get_at xs (posD (os.map Org.id) s) (by omega)
      have cy := hR.cell hy
      have fy := hR.frozen
      have hbs := blk_set1 hR (i := posD (os.map Org.id) s) (by omega) (.int .i64 k)
      have hgd := grown_drew hbs.2
      clear hy
      go_upto_region 34 with fail
      go_big_region
      go_wp2
      go_roundw
      case rel =>
        refine ⟨k + 1, _, by go_num, by omega, by simp [hxl], hbs.1.drew, hT.kept hgd (sne (by omega)), hm.kept hgd (sne (by omega)), hp.kept hgd (sne (by omega)), hS.kept hgd (sne (by omega)), hM.kept hgd (sne (by omega)), ext_st he hgd (by omega), fun j hj => ?_⟩
        obtain ⟨g', s', h1, h2, h3⟩ := hsr j hj
        cases h1
        exact ⟨g, s', rfl, hgd.cell h2 (sne (by show g ≠ gr; omega)), h3⟩
      case measure => simp [intOf]; omega
    · obtain rfl : k = os.length := by omega
      go_wp2
      go_ret2
      exact ⟨T, rfl, ⟨gi, bp, gp, gS, gM, S, M, _, _, _, hT, hm, hp, hgr.out, hS, hM⟩, he⟩

set_option maxRecDepth 1000000 in
set_option maxHeartbeats 3200000 in
theorem hsrtX (os : List Org) (sa : Option Addr) (w14 w15 w16 : World) (T : Nat) (L : List Value) (hT14 : Blk w14 T L) (hx15 : Ext w14 w15) (hg16 : w15.grownBy w16 (some T)) (hL : ∀ v ∈ L, ∀ s, v ≠ .string s)
    (hsrt : ∀ j, j < os.length → ∃ g s, sa = some ⟨g, 0, none⟩ ∧ w14.cell? ⟨g, j, none⟩ = some (.string s) ∧ okStr s) : ∀ j, j < os.length → ∃ g s, sa = some ⟨g, 0, none⟩ ∧ w16.cell? ⟨g, j, none⟩ = some (.string s) ∧ okStr s ∧ g < w14.heap.size := by
  intro j hj
  obtain ⟨g, s, h1, h2, h3⟩ := hsrt j hj
  refine ⟨g, s, h1, hg16.cell (hx15.cell h2) (sne ?_), h3, cell_lt h2⟩
  intro e
  subst e
  have := hT14.cellAt j
  rw [h2] at this
  exact hL _ (List.mem_of_getElem? this.symm) s rfl
set_option maxRecDepth 1000000 in
set_option maxHeartbeats 3200000 in
theorem newTree_t12 {x0 x1 x2 x3 x4 x6 x7 x10 x11 x13 x14 x15 x16 x17 x18 x19 x20 x21 x22 x23 x24 x25 x26 x27 x28 x29 x30 x31 x32 x33 x34 x35 x36 x37 x38 x39 x40 x41 x42 x43 x44 x45 x46 x47 x48 x49 x50 x51 x52 x53 x54 x55 x56 x57 x58 x59 x60 x61 x62 x63 x64 x65 x66 x67 x68 x69 x70 x71 x72 x73 x74 x75 x76 x77 x78 x79 x80 x81 x82 x83 x84 x85 x86 x87 x88 x89 x90 x91 x92 x93 x94 x95 x96 x97 x98 x99 x100 x101 x102 x103 x104 x105 x106 x107 x108 x109 x110 x111 x112 x113 x114 x115 x116 x117 x118 x119 x120 x121 x122 x123 x124 x125 x126 x127 x128 x129 x130 x131 x132 x133 x134 x135 x136 x137 x138 x139 x140 x141 x142 x143 x144 x145 x146 : Value} (os : List Org) (w : World) (T gi gp bp : Nat) (hn : os.length ≤ 1048576) (b1 : w.heap.size ≤ T) (b2 : w.heap.size ≤ gi) (b3 : w.heap.size ≤ gp) (n1 : bp < gi) (n2 : gi < T) (n3 : T < gp)
    (gS gM : Nat) (S M : List Int) (hgr : Hid (Grouped (parL os) os.length S M)) (g1 : gp < gS) (g2 : gp < gM) (w11 : World) (hT11 : Blk w11 T [.slice (some ⟨gi, 0, none⟩) os.length os.length, .map (some bp), .slice (some ⟨gp, 0, none⟩) os.length os.length, .slice (some ⟨gS, 0, none⟩) (os.length + 1) (os.length + 1), .slice (some ⟨gM, 0, none⟩) (Qxb6609292a.off (parL os) os.length) (Qxb6609292a.off (parL os) os.length), .slice none 0 0, .slice none 0 0]) (hst11 : StrsAt w11 (.slice (some ⟨gi, 0, none⟩) os.length os.length) (os.map Org.id)) (hm11 : SM w11 3 bp os.length (posF (os.map Org.id) (os.map Org.id).length)) (hp11 : Blk w11 gp ((parL os).map iI)) (hS11 : Blk w11 gS (S.map iI)) (hM11 : Blk w11 gM (M.map iI)) (he11 : Ext w w11) :
    Code.wp Try.prog (dropSeq 12 (Try.f27.body.getD .skip)) (bodyPost Try.prog Try.f27 (TreePost os w)) ⟨#[x0, x1, x2, x3, x4, .map (some bp), x6, x7, .int .i64 os.length, .pointer (some ⟨T, 0, none⟩), x10, x11, .slice (some ⟨gp, 0, none⟩) os.length os.length, x13, x14, x15, x16, x17, x18, x19, x20, x21, x22, x23, x24, x25, x26, x27, x28, x29, x30, x31, x32, x33, x34, x35, x36, x37, x38, x39, x40, x41, x42, x43, x44, x45, x46, x47, x48, x49, x50, x51, x52, x53, x54, x55, x56, x57, x58, x59, x60, x61, x62, x63, x64, x65, x66, x67, x68, x69, x70, x71, x72, x73, x74, x75, x76, x77, x78, x79, x80, x81, x82, x83, x84, x85, x86, x87, x88, x89, x90, x91, x92, x93, x94, x95, x96, x97, x98, x99, x100, x101, x102, x103, x104, x105, x106, x107, x108, x109, x110, x111, x112, x113, x114, x115, x116, x117, x118, x119, x120, x121, x122, x123, x124, x125, x126, x127, x128, x129, x130, x131, x132, x133, x134, x135, x136, x137, x138, x139, x140, x141, x142, x143, x144, x145, x146], []⟩ w11 := by
  conv => arg 2; whnf
  have q1 := hT11.lt
  have q2 := hS11.lt
  have q3 := hM11.lt
  have q4 := hp11.lt
  have cT0 : w11.cell? ⟨T, 0, none⟩ = some (.slice (some ⟨gi, 0, none⟩) os.length os.length) := hT11.cell rfl
  have hok := hst11.2
  repeat (first
    | (exact newTree_t15 os w T gi gp bp hn b1 b2 b3 n1 n2 n3 gS gM w14.heap.size S M hgr g1 g2 sa scap w16 hR16 hT16 hm16 hp16 hS16 hM16 he16 (by omega) (by omega) (hsrtX os sa w14 w15 w16 T _ hT14 hx15 hg16 (by simp) hsrt))
    | (go_at_call 42; refine (cloneIds os _ w11 hst11 hn).mono ?_; rintro e w12 ⟨sa, scap, rfl, hcl, hx12⟩; have hT12 := hT11.ext hx12; have hm12 := hm11.ext hx12; have he12 := he11.trans hx12; have hp12 := hp11.ext hx12; have hS12 := hS11.ext hx12; have hM12 := hM11.ext hx12; have hl12 := hx12.size; clear hT11 hm11 he11 hp11 hS11 hM11 hx12 cT0 hst11)
    | (go_at_call 54; refine (sortIds os w13 w11.heap.size sa scap hcl13 hok hn).mono ?_; rintro e w14 ⟨rfl, row, hg14, hrow, hsrt⟩; have hT14 := hT13.kept hg14 (fun e => by have := hrow _ e.symm; omega); have hm14 := hm13.kept hg14 (fun e => by have := hrow _ e.symm; omega); have hp14 := hp13.kept hg14 (fun e => by have := hrow _ e.symm; omega); have hS14 := hS13.kept hg14 (fun e => by have := hrow _ e.symm; omega); have hM14 := hM13.kept hg14 (fun e => by have := hrow _ e.symm; omega); have he14 := grown_ext he13 hg14 (fun k hk => by have := hrow k hk; omega); have hl14 := hg14.size; clear hT13 hm13 hp13 hS13 hM13 he13 hg14 hrow hcl13 cT5)
    | (at_make; refine wpList_mk w14 rfl (.tmp 122) (.tmp 122) 66 rfl 3 (.int .i64 0) 1 8 Try.underlying66 Try.infos3 os.length rfl rfl (by omega) (by omega) ?_; intro w15 hR15 hg15; rw [made_one _ rfl] at hR15; have hx15 : Ext w14 w15 := grown_ext (Ext.refl _) hg15 (by simp); have hT15 := hT14.ext hx15; have hm15 := hm14.ext hx15; have he15 := he14.trans hx15; have hp15 := hp14.ext hx15; have hS15 := hS14.ext hx15; have hM15 := hM14.ext hx15; have hl15 := hR15.lt; clear hg15)
    | (refine wpList_st1 w12 rfl 26 (.tmp 115) (.tmp 113) rfl T 5 _ (.slice sa os.length scap) rfl hT12 rfl Try.info26 (by simp) rfl ?_; intro w13 hT13' hg13; have hT13 : Blk w13 T [.slice (some ⟨gi, 0, none⟩) os.length os.length, .map (some bp), .slice (some ⟨gp, 0, none⟩) os.length os.length, .slice (some ⟨gS, 0, none⟩) (os.length + 1) (os.length + 1), .slice (some ⟨gM, 0, none⟩) (Qxb6609292a.off (parL os) os.length) (Qxb6609292a.off (parL os) os.length), .slice sa os.length scap, .slice none 0 0] := hT13'; have hm13 := hm12.kept hg13 (sne (by omega)); have he13 := ext_st he12 hg13 (by omega); have hp13 := hp12.kept hg13 (sne (by omega)); have hS13 := hS12.kept hg13 (sne (by omega)); have hM13 := hM12.kept hg13 (sne (by omega)); have hl13 := hg13.size; have cT5 : w13.cell? ⟨T, 5, none⟩ = some (.slice sa os.length scap) := hT13.cell rfl; have hcl13 : os ≠ [] → ∃ g cur, sa = some ⟨g, 0, none⟩ ∧ w11.heap.size ≤ g ∧ Blk w13 g cur ∧ cur.take (((os.map Org.id).map strRow).length * 1) = ((os.map Org.id).map strRow).flatten := (fun hne => by obtain ⟨g, cur, h1, h2, h3, h4⟩ := hcl hne; exact ⟨g, cur, h1, h2, h3.kept hg13 (sne (by omega)), h4⟩); clear hT12 hT13' hm12 he12 hp12 hS12 hM12 hcl hg13)
    | (refine wpList_st1 w15 rfl 66 (.tmp 125) (.tmp 123) rfl T 6 _ (.slice (some ⟨w14.heap.size, 0, none⟩) os.length os.length) rfl hT15 rfl Try.info66 (by simp) rfl ?_; intro w16 hT16' hg16; have hT16 : Blk w16 T [.slice (some ⟨gi, 0, none⟩) os.length os.length, .map (some bp), .slice (some ⟨gp, 0, none⟩) os.length os.length, .slice (some ⟨gS, 0, none⟩) (os.length + 1) (os.length + 1), .slice (some ⟨gM, 0, none⟩) (Qxb6609292a.off (parL os) os.length) (Qxb6609292a.off (parL os) os.length), .slice sa os.length scap, .slice (some ⟨w14.heap.size, 0, none⟩) os.length os.length] := hT16'; have hm16 := hm15.kept hg16 (sne (by omega)); have he16 := ext_st he15 hg16 (by omega); have hp16 := hp15.kept hg16 (sne (by omega)); have hS16 := hS15.kept hg16 (sne (by omega)); have hM16 := hM15.kept hg16 (sne (by omega)); have hR16 := hR15.kept hg16 (sne (by omega)))
    | go_values | go_skip | go_guarded | go_step | go_upon | (simp only [Int.not_lt, Int.not_le] at *; go_simp))

set_option maxRecDepth 1000000 in
set_option maxHeartbeats 3200000 in
theorem newTree_t {x0 x1 x2 x3 x4 x6 x7 x10 x11 x13 x14 x15 x16 x17 x18 x19 x20 x21 x22 x23 x24 x25 x26 x27 x28 x29 x30 x31 x32 x33 x34 x35 x36 x37 x38 x39 x40 x41 x42 x43 x44 x45 x46 x47 x48 x49 x50 x51 x52 x53 x54 x55 x56 x57 x58 x59 x60 x61 x62 x63 x64 x65 x66 x67 x68 x69 x70 x71 x72 x73 x74 x75 x76 x77 x78 x79 x80 x81 x82 x83 x84 x85 x86 x87 x88 x89 x90 x91 x92 x93 x94 x95 x96 x97 x98 x99 x100 x101 x102 x103 x104 x105 x106 x107 x108 x109 x110 x111 x112 x113 x114 x115 x116 x117 x118 x119 x120 x121 x122 x123 x124 x125 x126 x127 x128 x129 x130 x131 x132 x133 x134 x135 x136 x137 x138 x139 x140 x141 x142 x143 x144 x145 x146 : Value} (os : List Org) (w : World) (T gi gp bp : Nat) (hn : os.length ≤ 1048576) (b1 : w.heap.size ≤ T) (b2 : w.heap.size ≤ gi) (b3 : w.heap.size ≤ gp) (n1 : bp < gi) (n2 : gi < T) (n3 : T < gp) (hends : Hid (∀ q : Nat, q < os.length → Ends (parL os) q)) (w7 : World) (hT7 : Blk w7 T [.slice (some ⟨gi, 0, none⟩) os.length os.length, .map (some bp), .slice none 0 0, .slice none 0 0, .slice none 0 0, .slice none 0 0, .slice none 0 0]) (hpP : Blk w7 gp ((parL os).map iI)) (hst7 : StrsAt w7 (.slice (some ⟨gi, 0, none⟩) os.length os.length) (os.map Org.id)) (hm7 : SM w7 3 bp os.length (posF (os.map Org.id) (os.map Org.id).length)) (he7 : Ext w w7) :
    Code.wp Try.prog (dropSeq 9 (Try.f27.body.getD .skip)) (bodyPost Try.prog Try.f27 (TreePost os w)) ⟨#[x0, x1, x2, x3, x4, .map (some bp), x6, x7, .int .i64 os.length, .pointer (some ⟨T, 0, none⟩), x10, x11, .slice (some ⟨gp, 0, none⟩) os.length os.length, x13, x14, x15, x16, x17, x18, x19, x20, x21, x22, x23, x24, x25, x26, x27, x28, x29, x30, x31, x32, x33, x34, x35, x36, x37, x38, x39, x40, x41, x42, x43, x44, x45, x46, x47, x48, x49, x50, x51, x52, x53, x54, x55, x56, x57, x58, x59, x60, x61, x62, x63, x64, x65, x66, x67, x68, x69, x70, x71, x72, x73, x74, x75, x76, x77, x78, x79, x80, x81, x82, x83, x84, x85, x86, x87, x88, x89, x90, x91, x92, x93, x94, x95, x96, x97, x98, x99, x100, x101, x102, x103, x104, x105, x106, x107, x108, x109, x110, x111, x112, x113, x114, x115, x116, x117, x118, x119, x120, x121, x122, x123, x124, x125, x126, x127, x128, x129, x130, x131, x132, x133, x134, x135, x136, x137, x138, x139, x140, x141, x142, x143, x144, x145, x146], []⟩ w7 := by
  conv => arg 2; whnf
  have q1 := hT7.lt
  have q2 := hpP.lt
  have q3 := hm7.lt
  repeat (first
    | (exact newTree_t12 os w T gi gp bp hn b1 b2 b3 n1 n2 n3 gS gM S M hgr (by omega) (by omega) w11 hT11 hst11 hm11 hp11 hS11 hM11 he11)
    | (go_at_call 52; refine (firstInCycle_n os gp w7 hpP hends.out hn).mono ?_; rintro e w8 ⟨rfl, hx8⟩; have hT8 := hT7.ext hx8; have hst8 := hst7.ext hx8; have hm8 := hm7.ext hx8; have he8 := he7.trans hx8; have hp8 := hpP.ext hx8; have hl8 := hx8.size; clear hT7 hst7 hm7 he7 hpP hx8)
    | (go_at_call 53; refine (groupBy_n os gp w9 hp9 hn).mono ?_; rintro e w10 ⟨gS, gM, S, M, hgr', hS, hM, hgS, hgM, rfl, hx10⟩; have hgr : Hid (Grouped (parL os) os.length S M) := hgr'; clear hgr'; have hT10 := hT9.ext hx10; have hst10 := hst9.ext hx10; have hm10 := hm9.ext hx10; have he10 := he9.trans hx10; have hp10 := hp9.ext hx10; have hl10 := hx10.size; clear hT9 hst9 hm9 he9 hp9 hx10)
    | (refine wpList_st1 w8 rfl 66 (.tmp 101) (.tmp 99) rfl T 2 _ (.slice (some ⟨gp, 0, none⟩) os.length os.length) rfl hT8 rfl Try.info66 (by simp) rfl ?_; intro w9 hT9' hg9; have hT9 : Blk w9 T [.slice (some ⟨gi, 0, none⟩) os.length os.length, .map (some bp), .slice (some ⟨gp, 0, none⟩) os.length os.length, .slice none 0 0, .slice none 0 0, .slice none 0 0, .slice none 0 0] := hT9'; have hm9 := hm8.kept hg9 (sne (by omega)); have he9 := ext_st he8 hg9 (by omega); have hp9 := hp8.kept hg9 (sne (by omega)); have hl9 := hg9.size; have hst9 := hst8.stay hg9 (by omega); clear hT8 hT9' hm8 he8 hp8 hg9 hst8)
    | (refine wpList_st w10 rfl 115 (.tmp 107) (.tmp 105) rfl T 3 _ (.agg #[.slice (some ⟨gS, 0, none⟩) (os.length + 1) (os.length + 1), .slice (some ⟨gM, 0, none⟩) (Qxb6609292a.off (parL os) os.length) (Qxb6609292a.off (parL os) os.length)]) [.slice (some ⟨gS, 0, none⟩) (os.length + 1) (os.length + 1), .slice (some ⟨gM, 0, none⟩) (Qxb6609292a.off (parL os) os.length) (Qxb6609292a.off (parL os) os.length)] rfl hT10 rfl rfl Try.info115 (by simp) (by simp [Value.oneCell']) ?_; intro w11 hT11' hg11; have hT11 : Blk w11 T [.slice (some ⟨gi, 0, none⟩) os.length os.length, .map (some bp), .slice (some ⟨gp, 0, none⟩) os.length os.length, .slice (some ⟨gS, 0, none⟩) (os.length + 1) (os.length + 1), .slice (some ⟨gM, 0, none⟩) (Qxb6609292a.off (parL os) os.length) (Qxb6609292a.off (parL os) os.length), .slice none 0 0, .slice none 0 0] := hT11'; have hS11 := hS.kept hg11 (sne (by omega)); have hM11 := hM.kept hg11 (sne (by omega)); have hm11 := hm10.kept hg11 (sne (by omega)); have he11 := ext_st he10 hg11 (by omega); have hp11 := hp10.kept hg11 (sne (by omega)); have hst11 := hst10.stay hg11 (by omega))
    | go_values | go_skip | go_guarded | go_step | go_upon | (simp only [Int.not_lt, Int.not_le] at *; go_simp))

end Go.Proofs.Qxb6609292a
