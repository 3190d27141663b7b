/-
  WALKS for seat b6609292a: NewModel, the loops that clone.
-/
import Derived.Test.Qxb6609292aNewA
import Derived.Test.Qxb6609292aHeld
set_option linter.unusedVariables false
set_option linter.unusedSimpArgs false
namespace Go.Proofs.Qxb6609292a
open Go.RowKit Go.Maps
attribute [local go_sem] Oper.semAt_some

theorem wpIn_stN {F : Fence} {n : Nat} {o : Oper} {a : Act} {w : World} {K : Act → World → Prop} {Q : Exit → Act → World → Prop} (hF : ∀ f, F.fn f) (ty : TypeId) (x y : Operand) (ho : o.op = .store ty x y) (g i : Nat) (xs : List Value) (v : Value) (vs : List Value)
    (hx : a.eval x = .pointer (some ⟨g, i, none⟩)) (hb : Blk w g xs) (hy : a.eval y = v) (hv : v.cells = vs.toArray) (hs : (Try.prog.info? ty).map (·.size) = some vs.length) (hi : i + vs.length ≤ xs.length) (h1 : ∀ u ∈ vs, u.oneCell' = true)
    (hK : ∀ w', Blk w' g (setR xs i vs) → w.grownBy w' (some g) → K (a.put o.dst undef) w') : Oper.wpIn F n Try.prog o a w K Q := by
  obtain ⟨w', hr, r1, r2⟩ := run_st w ty g i v vs xs hb hv hs hi h1
  unfold Oper.wpIn
  refine ⟨fun f _ => hF f, ?_⟩
  rw [semAt_any F.round a.eval o (by simp [notDefer, ho])]
  unfold execOp
  simp only [ho, hx, hy, Instr.storeAt, Instr.sureAddr, Sem.run_bind, Sem.run_pure, Result.andThen_ok, hr]
  exact hK w' r1 r2
theorem Try.info95 : (Try.prog.info? 95).map (·.size) = some 1 := by kernel_rfl
set_option maxRecDepth 1000000 in
set_option maxHeartbeats 6400000 in
theorem newModel_t15 {x0 x2 x3 x5 x6 x7 x8 x9 x10 x11 x13 x14 x15 x16 x17 x18 x19 x20 x21 x22 x23 x24 x25 x26 x27 x28 x29 x30 x31 x32 x33 x34 x35 x36 x37 x38 x39 x40 x41 x42 x43 x44 x45 x46 x47 x48 x49 x50 x51 x52 x53 x54 x55 x56 x57 x58 x59 x60 x61 x62 x63 x64 x65 x66 x67 x68 x69 x70 x71 x72 x73 x74 x75 x76 x77 x78 x79 x80 x81 x82 x83 x84 x85 x86 x87 x88 x89 x90 x91 x92 x93 x94 x95 x96 x97 x98 x99 x100 x101 x102 x103 x104 x105 x106 x107 x108 x109 x110 x111 x112 x113 x114 x115 x116 x117 x118 x119 x120 x121 x122 x123 x124 x125 x126 x127 x128 x129 x130 x131 x132 x133 x134 x135 x136 x137 x138 x139 x140 x141 x142 x143 x144 x145 x146 x147 x148 x149 x150 x151 x152 x153 x154 x155 x156 x157 x158 x159 x160 x161 x162 x163 x164 x165 x166 x167 x168 x169 x170 x171 x172 x173 x174 x175 x176 x177 x178 x179 x180 x181 x182 x183 x184 x185 x186 x187 x188 x189 x190 x191 x192 x193 x194 x195 x196 x197 x198 x199 x200 x201 x202 x203 x204 x205 x206 x207 x208 x209 x210 x211 x212 x213 x214 : Value} (os : List Org) (rs rl : List Role) (ss sl : List Share) (an : List ByteArray) (A T m bR bA Nr : Nat) (aa : Option Addr) (ca : Nat) (vO vR0 vU0 vS0 : Value) (w wB wr0 : World)
    (hn : os.length ≤ 1048576) (hns : sl.length ≤ 1048576) (hna : an.length ≤ 1048576) (hwB : Ext w wB) (he : Ext wB wr0) (hT : TreeAt wB T os) (hmr : SM wB 3 bR Nr (posF (rs.map Role.id) (rs.map Role.id).length)) (hW : Blk wB A [vO, vR0, vU0, vS0, .slice none 0 0, .slice aa an.length ca]) (han : StrsAt wB (.slice aa an.length ca) an)
    (hrc : Hid (rl.map Role.core = rs.map Role.core)) (hsc : Hid (sl.map Share.core = ss.map Share.core)) (mB : wB.heap.size ≤ m) (aB : wB.heap.size ≤ bA) (nmA : m ≠ bA) (bO vU bU vc vd vR : Value) (gS : Nat) (aS : Option Addr) (cS : Nat) (hB : Blk wr0 m [.pointer (some ⟨T, 0, none⟩), bO, vR, .map (some bR), vU, bU, .slice aS sl.length cS, .slice none 0 0, .slice none 0 0, vc, vd, .map (some bA)]) (hR : RolesM wr0 vR rl) (hRm : RowsNe vR m) (hRg : RowsNe vR gS) (hrb : ∀ r ∈ rl, ∀ b, r.gv = .map (some b) → b ≠ bA)
    (hCB : CB wr0 gS 5 (sl.map Share.row)) (haS : sl ≠ [] → aS = some ⟨gS, 0, none⟩) (hcS : sl.length ≤ cS) (hSo : ∀ s ∈ sl, ShOk wB gS m s) (hA : SM wr0 4 bA 0 (setF [])) (gB : wB.heap.size ≤ gS) (ngm : gS ≠ m) (hdest : ∀ s ∈ sl, s.dest ∈ os.map Org.id) (hnp : ∀ s ∈ sl, s.perms.length ≤ 1048576) :
    Code.wp Try.prog (dropSeq 15 (Try.f10.body.getD .skip)) (bodyPost Try.prog Try.f10 (NewPost os rs ss an w)) ⟨#[x0, .pointer (some ⟨A, 0, none⟩), x2, x3, .pointer (some ⟨T, 0, none⟩), x5, x6, x7, x8, x9, x10, x11, .pointer (some ⟨m, 0, none⟩), x13, x14, x15, x16, x17, x18, x19, x20, x21, x22, x23, x24, x25, x26, x27, x28, x29, x30, x31, x32, x33, x34, x35, x36, x37, x38, x39, x40, x41, x42, x43, x44, x45, x46, x47, x48, x49, x50, x51, x52, x53, x54, x55, x56, x57, x58, x59, x60, x61, x62, x63, x64, x65, x66, x67, x68, x69, x70, x71, x72, x73, x74, x75, x76, x77, x78, x79, x80, x81, x82, x83, x84, x85, x86, x87, x88, x89, x90, x91, x92, x93, x94, x95, x96, x97, x98, x99, x100, x101, x102, x103, x104, x105, x106, x107, x108, x109, x110, x111, x112, x113, x114, x115, x116, x117, x118, x119, x120, x121, x122, x123, x124, x125, x126, x127, x128, x129, x130, x131, x132, x133, x134, x135, x136, x137, x138, x139, x140, x141, x142, x143, x144, x145, x146, x147, x148, x149, x150, x151, x152, x153, x154, x155, x156, x157, x158, x159, x160, x161, x162, x163, x164, x165, x166, x167, x168, x169, x170, x171, x172, x173, x174, x175, x176, x177, x178, x179, x180, x181, x182, x183, x184, x185, x186, x187, x188, x189, x190, x191, x192, x193, x194, x195, x196, x197, x198, x199, x200, x201, x202, x203, x204, x205, x206, x207, x208, x209, x210, x211, x212, x213, x214], []⟩ wr0 := by
  conv => arg 2; whnf
  have cm0 : wr0.cell? ⟨m, 6, none⟩ = some (.slice aS sl.length cS) := hB.cell rfl
  have hml := hB.lt
  go_wp2_with fail
  go_loopw [171] (fun j wr => ∃ (k : Nat) (sl' : List Share), j = .int .i64 k ∧ k ≤ sl.length ∧ Hid (sl'.map Share.core = sl.map Share.core) ∧ CB wr gS 5 (sl'.map Share.row) ∧ (∀ s ∈ sl', ShOk wr gS m s) ∧ Blk wr m [.pointer (some ⟨T, 0, none⟩), bO, vR, .map (some bR), vU, bU, .slice aS sl.length cS, .slice none 0 0, .slice none 0 0, vc, vd, .map (some bA)] ∧ RolesM wr vR rl ∧ SM wr 4 bA 0 (setF []) ∧ Ext wB wr) (fun i _ => sl.length - (intOf i).toNat)
  case atStart => exact ⟨0, sl, rfl, Nat.zero_le _, rfl, hCB, fun s hs => ⟨(hSo s hs).1, (hSo s hs).2.1, (hSo s hs).2.2.1, (hSo s hs).2.2.2.1, (hSo s hs).2.2.2.2.1.ext he, (hSo s hs).2.2.2.2.2⟩, hB, hR, hA, he⟩
  case round =>
    clear hCB hB hR hA he cm0 hml
    obtain ⟨k, sl', rfl, hk, hco, hCB, hSk, hB, hR, hA, he⟩ := hrel
    have hlen := core_len hco.out
    by_cases hlt : k < sl.length
    · obtain ⟨sh, hsh⟩ := get_at sl' k (by omega)
      have hok := hSk sh (List.mem_of_getElem? hsh)
      obtain ⟨pa, pc, hpv, hpc⟩ := hok.2.2.2.2.1.shape
      have hrl : ∀ x ∈ sl'.map Share.row, x.length = 5 := by intro x hx; obtain ⟨q, _, rfl⟩ := List.mem_map.1 hx; rfl
      have hrk : (sl'.map Share.row)[k]? = some sh.row := by rw [List.getElem?_map, hsh]; rfl
      obtain ⟨cur, hcur, htk, hck, hkl, hkn⟩ := hCB.at hrl hrk (j := 3) (u := .slice pa sh.perms.length pc) (by rw [← hpv]; rfl)
      have hne : sl ≠ [] := fun e => by rw [e] at hlt; exact absurd hlt (Nat.not_lt_zero _)
      have haE := haS hne
      subst haE
      have cm : wr.cell? ⟨m, 6, none⟩ = some (.slice (some ⟨gS, 0, none⟩) sl.length cS) := hB.cell rfl
      have ck := hcur.cell hck
      have hpl : sh.perms.length ≤ 1048576 := by
        obtain ⟨y, hy, e⟩ := core_mem hco.out (List.mem_of_getElem? hsh)
        have : y.perms = sh.perms := congrArg (fun c => c.2.2.2.1) e
        rw [← this]; exact hnp y hy
      have hst := hok.2.2.2.2.1
      rw [hpv] at hst
      have hcl := cloneStrs (.slice pa sh.perms.length pc) sh.perms wr.drew (hst.ext (Ext.refl _).drawn) hpl
      have hml := hB.lt
      have hgl := hcur.lt
      have HSH : Hid (sl'[k]? = some sh) := hsh
      have HRK : Hid ((sl'.map Share.row)[k]? = some sh.row) := hrk
      have HTK : Hid (cur.take ((sl'.map Share.row).length * 5) = (sl'.map Share.row).flatten) := htk
      clear hsh hrk htk hpv
      have hS1 : (fun w' : World => w'.cell? ⟨m, 6, none⟩ = some (.slice (some ⟨gS, 0, none⟩) sl.length cS) ∧ w'.cell? ⟨gS, k * 5 + 3, none⟩ = some (.slice pa sh.perms.length pc)) wr.drew := ⟨cm, ck⟩
      go_upto_region 38 with fail
      refine (wpIn_wide (n := 5)).1 ?_
      refine wpIn_region_S (fun w' => w'.cell? ⟨m, 6, none⟩ = some (.slice (some ⟨gS, 0, none⟩) sl.length cS) ∧ w'.cell? ⟨gS, k * 5 + 3, none⟩ = some (.slice pa sh.perms.length pc)) 16 (by kernel_rfl) ?_
      change wpS _ _ _ _ _ _ _ 17 #[false, false, false, false, false, false, false, false, false, false, false, false, false, false, false, false, false] _ _
      refine wpS_take (i := 0) (v := .pointer (some ⟨m, 0, none⟩)) (fun _ => trivial) (by kernel_rfl) rfl (by kernel_rfl) (by kernel_rfl) (by kernel_rfl) (by kernel_rfl) (by kernel_rfl) (fun _ _ _ h => h) (Or.inl ⟨by kernel_rfl, ?_⟩) hS1 ?_
      · intro w' hSw; obtain ⟨s0, s1⟩ := hSw; go_simp
      simp only [Act.put, List.getElem_toArray, List.getElem_cons_zero, List.getElem_cons_succ, List.setIfInBounds_toArray, List.set_cons_zero, List.set_cons_succ]
      refine wpS_take (i := 1) (v := .pointer (some ⟨m, 0, none⟩)) (fun _ => trivial) (by kernel_rfl) rfl (by kernel_rfl) (by kernel_rfl) (by kernel_rfl) (by kernel_rfl) (by kernel_rfl) (fun _ _ _ h => h) (Or.inl ⟨by kernel_rfl, ?_⟩) hS1 ?_
      · intro w' hSw; obtain ⟨s0, s1⟩ := hSw; go_simp
      simp only [Act.put, List.getElem_toArray, List.getElem_cons_zero, List.getElem_cons_succ, List.setIfInBounds_toArray, List.set_cons_zero, List.set_cons_succ]
      refine wpS_take (i := 2) (v := .pointer (some ⟨m, 6, none⟩)) (fun _ => trivial) (by kernel_rfl) rfl (by kernel_rfl) (by kernel_rfl) (by kernel_rfl) (by kernel_rfl) (by kernel_rfl) (fun _ _ _ h => h) (Or.inl ⟨by kernel_rfl, ?_⟩) hS1 ?_
      · intro w' hSw; obtain ⟨s0, s1⟩ := hSw; go_simp
      simp only [Act.put, List.getElem_toArray, List.getElem_cons_zero, List.getElem_cons_succ, List.setIfInBounds_toArray, List.set_cons_zero, List.set_cons_succ]
      refine wpS_take (i := 3) (v := .slice (some ⟨gS, 0, none⟩) sl.length cS) (fun _ => trivial) (by kernel_rfl) rfl (by kernel_rfl) (by kernel_rfl) (by kernel_rfl) (by kernel_rfl) (by kernel_rfl) (fun _ _ _ h => h) (Or.inl ⟨by kernel_rfl, ?_⟩) hS1 ?_
      · intro w' hSw; obtain ⟨s0, s1⟩ := hSw; go_simp
      simp only [Act.put, List.getElem_toArray, List.getElem_cons_zero, List.getElem_cons_succ, List.setIfInBounds_toArray, List.set_cons_zero, List.set_cons_succ]
      refine wpS_take (i := 4) (v := .int .i64 (k : Int)) (fun _ => trivial) (by kernel_rfl) rfl (by kernel_rfl) (by kernel_rfl) (by kernel_rfl) (by kernel_rfl) (by kernel_rfl) (fun _ _ _ h => h) (Or.inl ⟨by kernel_rfl, ?_⟩) hS1 ?_
      · intro w' hSw; obtain ⟨s0, s1⟩ := hSw; go_simp
      simp only [Act.put, List.getElem_toArray, List.getElem_cons_zero, List.getElem_cons_succ, List.setIfInBounds_toArray, List.set_cons_zero, List.set_cons_succ]
      refine wpS_take (i := 5) (v := .pointer (some ⟨m, 0, none⟩)) (fun _ => trivial) (by kernel_rfl) rfl (by kernel_rfl) (by kernel_rfl) (by kernel_rfl) (by kernel_rfl) (by kernel_rfl) (fun _ _ _ h => h) (Or.inl ⟨by kernel_rfl, ?_⟩) hS1 ?_
      · intro w' hSw; obtain ⟨s0, s1⟩ := hSw; go_simp
      simp only [Act.put, List.getElem_toArray, List.getElem_cons_zero, List.getElem_cons_succ, List.setIfInBounds_toArray, List.set_cons_zero, List.set_cons_succ]
      refine wpS_take (i := 6) (v := .pointer (some ⟨m, 0, none⟩)) (fun _ => trivial) (by kernel_rfl) rfl (by kernel_rfl) (by kernel_rfl) (by kernel_rfl) (by kernel_rfl) (by kernel_rfl) (fun _ _ _ h => h) (Or.inl ⟨by kernel_rfl, ?_⟩) hS1 ?_
      · intro w' hSw; obtain ⟨s0, s1⟩ := hSw; go_simp
      simp only [Act.put, List.getElem_toArray, List.getElem_cons_zero, List.getElem_cons_succ, List.setIfInBounds_toArray, List.set_cons_zero, List.set_cons_succ]
      refine wpS_take (i := 7) (v := .pointer (some ⟨m, 6, none⟩)) (fun _ => trivial) (by kernel_rfl) rfl (by kernel_rfl) (by kernel_rfl) (by kernel_rfl) (by kernel_rfl) (by kernel_rfl) (fun _ _ _ h => h) (Or.inl ⟨by kernel_rfl, ?_⟩) hS1 ?_
      · intro w' hSw; obtain ⟨s0, s1⟩ := hSw; go_simp
      simp only [Act.put, List.getElem_toArray, List.getElem_cons_zero, List.getElem_cons_succ, List.setIfInBounds_toArray, List.set_cons_zero, List.set_cons_succ]
      refine wpS_take (i := 8) (v := .slice (some ⟨gS, 0, none⟩) sl.length cS) (fun _ => trivial) (by kernel_rfl) rfl (by kernel_rfl) (by kernel_rfl) (by kernel_rfl) (by kernel_rfl) (by kernel_rfl) (fun _ _ _ h => h) (Or.inl ⟨by kernel_rfl, ?_⟩) hS1 ?_
      · intro w' hSw; obtain ⟨s0, s1⟩ := hSw; go_simp
      simp only [Act.put, List.getElem_toArray, List.getElem_cons_zero, List.getElem_cons_succ, List.setIfInBounds_toArray, List.set_cons_zero, List.set_cons_succ]
      refine wpS_take (i := 9) (v := .int .i64 (k : Int)) (fun _ => trivial) (by kernel_rfl) rfl (by kernel_rfl) (by kernel_rfl) (by kernel_rfl) (by kernel_rfl) (by kernel_rfl) (fun _ _ _ h => h) (Or.inl ⟨by kernel_rfl, ?_⟩) hS1 ?_
      · intro w' hSw; obtain ⟨s0, s1⟩ := hSw; go_simp
      simp only [Act.put, List.getElem_toArray, List.getElem_cons_zero, List.getElem_cons_succ, List.setIfInBounds_toArray, List.set_cons_zero, List.set_cons_succ]
      refine wpS_take (i := 10) (v := .pointer (some ⟨gS, k * 5, none⟩)) (fun _ => trivial) (by kernel_rfl) rfl (by kernel_rfl) (by kernel_rfl) (by kernel_rfl) (by kernel_rfl) (by kernel_rfl) (fun _ _ _ h => h) (Or.inl ⟨by kernel_rfl, ?_⟩) hS1 ?_
      · intro w' hSw; obtain ⟨s0, s1⟩ := hSw; go_simp
      simp only [Act.put, List.getElem_toArray, List.getElem_cons_zero, List.getElem_cons_succ, List.setIfInBounds_toArray, List.set_cons_zero, List.set_cons_succ]
      refine wpS_take (i := 11) (v := .pointer (some ⟨gS, k * 5 + 3, none⟩)) (fun _ => trivial) (by kernel_rfl) rfl (by kernel_rfl) (by kernel_rfl) (by kernel_rfl) (by kernel_rfl) (by kernel_rfl) (fun _ _ _ h => h) (Or.inl ⟨by kernel_rfl, ?_⟩) hS1 ?_
      · intro w' hSw; obtain ⟨s0, s1⟩ := hSw; go_simp
      simp only [Act.put, List.getElem_toArray, List.getElem_cons_zero, List.getElem_cons_succ, List.setIfInBounds_toArray, List.set_cons_zero, List.set_cons_succ]
      refine wpS_take (i := 12) (v := .slice pa sh.perms.length pc) (fun _ => trivial) (by kernel_rfl) rfl (by kernel_rfl) (by kernel_rfl) (by kernel_rfl) (by kernel_rfl) (by kernel_rfl) (fun _ _ _ h => h) (Or.inl ⟨by kernel_rfl, ?_⟩) hS1 ?_
      · intro w' hSw; obtain ⟨s0, s1⟩ := hSw; go_simp
      simp only [Act.put, List.getElem_toArray, List.getElem_cons_zero, List.getElem_cons_succ, List.setIfInBounds_toArray, List.set_cons_zero, List.set_cons_succ]
      refine wpS_one (i := 13) (by kernel_rfl) rfl (by kernel_rfl) (fun K hK => ?_)
      gi_wp2_with (refine ⟨trivial, ?_⟩; gi_at_call 42; refine (callsIn_wide.2 hcl).mono ?_; rintro e wc ⟨v', rfl, hcd, hxc⟩)
      have hcs := cloned_strs hcd hst.2
      obtain ⟨av, cv, hav, hcv, _⟩ := hcd
      rw [List.length_map] at hav
      subst hav
      have hS2 : (fun w' : World => w'.cell? ⟨m, 6, none⟩ = some (.slice (some ⟨gS, 0, none⟩) sl.length cS) ∧ w'.cell? ⟨gS, k * 5 + 3, none⟩ = some (.slice pa sh.perms.length pc)) wc := ⟨hxc.cell cm, hxc.cell ck⟩
      refine hK _ _ (Or.inl hS2) ?_
      clear hK
      simp only [Act.put, List.getElem_toArray, List.getElem_cons_zero, List.getElem_cons_succ, List.setIfInBounds_toArray, List.set_cons_zero, List.set_cons_succ]
      refine wpS_take (i := 14) (v := .pointer (some ⟨gS, k * 5, none⟩)) (fun _ => trivial) (by kernel_rfl) rfl (by kernel_rfl) (by kernel_rfl) (by kernel_rfl) (by kernel_rfl) (by kernel_rfl) (fun _ _ _ h => h) (Or.inl ⟨by kernel_rfl, ?_⟩) hS2 ?_
      · intro w' hSw; obtain ⟨s0, s1⟩ := hSw; go_simp
      simp only [Act.put, List.getElem_toArray, List.getElem_cons_zero, List.getElem_cons_succ, List.setIfInBounds_toArray, List.set_cons_zero, List.set_cons_succ]
      refine wpS_take (i := 15) (v := .pointer (some ⟨gS, k * 5 + 3, none⟩)) (fun _ => trivial) (by kernel_rfl) rfl (by kernel_rfl) (by kernel_rfl) (by kernel_rfl) (by kernel_rfl) (by kernel_rfl) (fun _ _ _ h => h) (Or.inl ⟨by kernel_rfl, ?_⟩) hS2 ?_
      · intro w' hSw; obtain ⟨s0, s1⟩ := hSw; go_simp
      simp only [Act.put, List.getElem_toArray, List.getElem_cons_zero, List.getElem_cons_succ, List.setIfInBounds_toArray, List.set_cons_zero, List.set_cons_succ]
      refine wpS_one (i := 16) (by kernel_rfl) rfl (by kernel_rfl) (fun K hK => ?_)
      refine wpIn_stN (fun _ => trivial) 26 (.tmp 189) (.tmp 187) (by rfl) gS (k * 5 + 3) cur (.slice av sh.perms.length cv) [.slice av sh.perms.length cv] (by rfl) (hcur.ext ((Ext.refl _).drawn.trans hxc)) (by rfl) rfl Try.info26 (by simp; omega) (by simp [Value.oneCell']) ?_
      intro w2 hb2 hg2
      rw [setR1 hkl] at hb2
      refine hK _ _ (Or.inr (by kernel_rfl)) ?_
      clear hK
      simp only [Act.put, List.getElem_toArray, List.getElem_cons_zero, List.getElem_cons_succ, List.setIfInBounds_toArray, List.set_cons_zero, List.set_cons_succ]
      refine wpS_done (by kernel_rfl) ?_ _
      go_wp2
      go_roundw
      case rel =>
        have hxw : Ext wr wc := (Ext.refl _).drawn.trans hxc
        have hns2 : RowsNe (.slice av sh.perms.length cv) gS := hcs.2 gS hgl
        have hco2 : (sl'.set k { sh with pv := .slice av sh.perms.length cv }).map Share.core = sl.map Share.core := (core_set (y := { sh with pv := .slice av sh.perms.length cv }) HSH.out rfl).trans hco.out
        refine ⟨k + 1, sl'.set k { sh with pv := .slice av sh.perms.length cv }, by go_num, by omega, (show Hid _ from hco2), ?_, ?_, (hB.ext hxw).kept hg2 (sne ngm.symm), (hR.ext hxw).keptN hg2 hRg (fun r hr b hb => mapAt_ne (by have := (hR.2 r hr).2.2.2.2; rw [hb] at this; exact this) hcur), (hA.ext hxw).kept hg2 (sne (hA.blk_ne hcur).symm), ext_st (he.trans hxw) hg2 gB⟩
        · rw [List.map_set]
          exact CB.put hb2 HTK.out hrl HRK.out (by decide) hkn
        · intro s hs
          rcases List.mem_or_eq_of_mem_set hs with h | rfl
          · have := hSk s h
            exact ⟨this.1, this.2.1, this.2.2.1, this.2.2.2.1, (this.2.2.2.2.1.ext hxw).keptN hg2 this.2.2.2.2.2.1, this.2.2.2.2.2⟩
          · exact ⟨hok.1, hok.2.1, hok.2.2.1, hok.2.2.2.1, hcs.1.keptN hg2 hns2, hns2, hcs.2 m hml⟩
      case measure => simp [intOf]; omega
    · obtain rfl : k = sl.length := by omega
      have hrl : ∀ x ∈ sl'.map Share.row, x.length = 5 := by intro x hx; obtain ⟨q, _, rfl⟩ := List.mem_map.1 hx; rfl
      have hSA : SharesAt wr (.slice aS sl'.length cS) sl' := ⟨by
        have := hCB.rows hrl (a := aS) (cap := cS) (fun hne => haS (fun e => by rw [e] at hlen; rw [List.length_eq_zero_iff.1 hlen] at hne; exact hne rfl)) (by rw [List.length_map]; omega)
        rw [List.length_map] at this
        exact this, fun s hs => ⟨(hSk s hs).1, (hSk s hs).2.1, (hSk s hs).2.2.1, (hSk s hs).2.2.2.1, (hSk s hs).2.2.2.2.1⟩⟩
      have hSn : RowsNe (.slice aS sl'.length cS) m := fun a n c e hn => by
        cases e
        have := haS (fun e => hn (by rw [hlen, e]; rfl))
        cases this
        exact ngm
      have hd' : ∀ s ∈ sl', s.dest ∈ os.map Org.id := fun s hs => by
        obtain ⟨y, hy, e⟩ := core_mem hco.out hs
        have : y.dest = s.dest := congrArg (fun c => c.2.2.1) e
        rw [← this]; exact hdest y hy
      have hsc' : Hid (sl'.map Share.core = ss.map Share.core) := hco.out.trans hsc.out
      rw [← hlen] at hB
      clear hCB
      repeat (first | (exact newModel_t16 os rs rl ss sl' an A T m bR bA Nr aa ca vO vR0 vU0 vS0 w wB wr hn (by omega) hna hwB he hT hmr hW han hrc hsc' mB aB nmA bO vR vU bU vc vd aS cS hB hR hSA hA hrb hd' hRm hSn (fun s hs => (hSk s hs).2.2.2.2.2.2)) | go_values | go_skip | go_guarded | go_step | go_upon | (simp only [Int.not_lt, Int.not_le] at *; go_simp))


end Go.Proofs.Qxb6609292a
