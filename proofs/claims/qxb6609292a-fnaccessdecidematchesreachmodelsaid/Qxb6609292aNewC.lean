/-
  WALKS for seat b6609292a: NewModel, the loops over users and roles.
-/
import Derived.Test.Qxb6609292aNewB
set_option linter.unusedVariables false
set_option linter.unusedSimpArgs false
namespace Go.Proofs.Qxb6609292a
open Go.RowKit Go.Maps
attribute [local go_sem] Oper.semAt_some

set_option maxRecDepth 1000000 in
set_option maxHeartbeats 6400000 in
theorem newModel_t14 {x0 x2 x3 x5 x6 x7 x8 x9 x10 x11 x13 x14 x15 x16 x17 x18 x19 x20 x21 x22 x23 x24 x25 x26 x27 x28 x29 x30 x31 x32 x33 x34 x35 x36 x37 x38 x39 x40 x41 x42 x43 x44 x45 x46 x47 x48 x49 x50 x51 x52 x53 x54 x55 x56 x57 x58 x59 x60 x61 x62 x63 x64 x65 x66 x67 x68 x69 x70 x71 x72 x73 x74 x75 x76 x77 x78 x79 x80 x81 x82 x83 x84 x85 x86 x87 x88 x89 x90 x91 x92 x93 x94 x95 x96 x97 x98 x99 x100 x101 x102 x103 x104 x105 x106 x107 x108 x109 x110 x111 x112 x113 x114 x115 x116 x117 x118 x119 x120 x121 x122 x123 x124 x125 x126 x127 x128 x129 x130 x131 x132 x133 x134 x135 x136 x137 x138 x139 x140 x141 x142 x143 x144 x145 x146 x147 x148 x149 x150 x151 x152 x153 x154 x155 x156 x157 x158 x159 x160 x161 x162 x163 x164 x165 x166 x167 x168 x169 x170 x171 x172 x173 x174 x175 x176 x177 x178 x179 x180 x181 x182 x183 x184 x185 x186 x187 x188 x189 x190 x191 x192 x193 x194 x195 x196 x197 x198 x199 x200 x201 x202 x203 x204 x205 x206 x207 x208 x209 x210 x211 x212 x213 x214 : Value} (os : List Org) (rs rl : List Role) (ss sl : List Share) (an : List ByteArray) (A T m bR bA Nr : Nat) (aa : Option Addr) (ca : Nat) (vO vR0 vU0 vS0 : Value) (w wB wr0 : World)
    (hn : os.length ≤ 1048576) (hns : sl.length ≤ 1048576) (hna : an.length ≤ 1048576) (hwB : Ext w wB) (he : Ext wB wr0) (hT : TreeAt wB T os) (hmr : SM wB 3 bR Nr (posF (rs.map Role.id) (rs.map Role.id).length)) (hW : Blk wB A [vO, vR0, vU0, vS0, .slice none 0 0, .slice aa an.length ca]) (han : StrsAt wB (.slice aa an.length ca) an)
    (hrc : Hid (rl.map Role.core = rs.map Role.core)) (hsc : Hid (sl.map Share.core = ss.map Share.core)) (mB : wB.heap.size ≤ m) (aB : wB.heap.size ≤ bA) (nmA : m ≠ bA) (us : List User) (bO bU vc vd vR : Value) (gS gU : Nat) (aS aU : Option Addr) (cS cU : Nat) (hB : Blk wr0 m [.pointer (some ⟨T, 0, none⟩), bO, vR, .map (some bR), .slice aU us.length cU, bU, .slice aS sl.length cS, .slice none 0 0, .slice none 0 0, vc, vd, .map (some bA)]) (hR : RolesM wr0 vR rl) (hRm : RowsNe vR m) (hRg : RowsNe vR gS) (hRu : RowsNe vR gU) (hrb : ∀ r ∈ rl, ∀ b, r.gv = .map (some b) → b ≠ bA)
    (hCB : CB wr0 gS 5 (sl.map Share.row)) (haS : sl ≠ [] → aS = some ⟨gS, 0, none⟩) (hcS : sl.length ≤ cS) (hSo : ∀ s ∈ sl, ShOk wB gS m s) (hA : SM wr0 4 bA 0 (setF [])) (gB : wB.heap.size ≤ gS) (ngm : gS ≠ m) (hdest : ∀ s ∈ sl, s.dest ∈ os.map Org.id) (hnp : ∀ s ∈ sl, s.perms.length ≤ 1048576)
    (hCU : CB wr0 gU 2 (us.map User.row)) (haU : us ≠ [] → aU = some ⟨gU, 0, none⟩) (hnu : us.length ≤ 1048576) (hUo : ∀ u ∈ us, StrsAt wB u.rv u.roles ∧ u.roles.length ≤ 1048576) (uB : wB.heap.size ≤ gU) (num : gU ≠ m) (nus : gU ≠ gS) :
    Code.wp Try.prog (dropSeq 14 (Try.f10.body.getD .skip)) (bodyPost Try.prog Try.f10 (NewPost os rs ss an w)) ⟨#[x0, .pointer (some ⟨A, 0, none⟩), x2, x3, .pointer (some ⟨T, 0, none⟩), x5, x6, x7, x8, x9, x10, x11, .pointer (some ⟨m, 0, none⟩), x13, x14, x15, x16, x17, x18, x19, x20, x21, x22, x23, x24, x25, x26, x27, x28, x29, x30, x31, x32, x33, x34, x35, x36, x37, x38, x39, x40, x41, x42, x43, x44, x45, x46, x47, x48, x49, x50, x51, x52, x53, x54, x55, x56, x57, x58, x59, x60, x61, x62, x63, x64, x65, x66, x67, x68, x69, x70, x71, x72, x73, x74, x75, x76, x77, x78, x79, x80, x81, x82, x83, x84, x85, x86, x87, x88, x89, x90, x91, x92, x93, x94, x95, x96, x97, x98, x99, x100, x101, x102, x103, x104, x105, x106, x107, x108, x109, x110, x111, x112, x113, x114, x115, x116, x117, x118, x119, x120, x121, x122, x123, x124, x125, x126, x127, x128, x129, x130, x131, x132, x133, x134, x135, x136, x137, x138, x139, x140, x141, x142, x143, x144, x145, x146, x147, x148, x149, x150, x151, x152, x153, x154, x155, x156, x157, x158, x159, x160, x161, x162, x163, x164, x165, x166, x167, x168, x169, x170, x171, x172, x173, x174, x175, x176, x177, x178, x179, x180, x181, x182, x183, x184, x185, x186, x187, x188, x189, x190, x191, x192, x193, x194, x195, x196, x197, x198, x199, x200, x201, x202, x203, x204, x205, x206, x207, x208, x209, x210, x211, x212, x213, x214], []⟩ wr0 := by
  conv => arg 2; whnf
  have cm0 : wr0.cell? ⟨m, 4, none⟩ = some (.slice aU us.length cU) := hB.cell rfl
  go_wp2_with fail
  go_loopw [146] (fun j wr => ∃ (k : Nat) (ur : List (List Value)), j = .int .i64 k ∧ k ≤ us.length ∧ ur.length = us.length ∧ (∀ x ∈ ur, x.length = 2) ∧ Hid (∀ (i : Nat) (u : User), k ≤ i → us[i]? = some u → ur[i]? = some u.row) ∧ CB wr gU 2 ur ∧ CB wr gS 5 (sl.map Share.row) ∧ Blk wr m [.pointer (some ⟨T, 0, none⟩), bO, vR, .map (some bR), .slice aU us.length cU, bU, .slice aS sl.length cS, .slice none 0 0, .slice none 0 0, vc, vd, .map (some bA)] ∧ RolesM wr vR rl ∧ SM wr 4 bA 0 (setF []) ∧ Ext wB wr) (fun i _ => us.length - (intOf i).toNat)
  case atStart => exact ⟨0, us.map User.row, rfl, Nat.zero_le _, by simp, (by intro x hx; obtain ⟨q, _, rfl⟩ := List.mem_map.1 hx; rfl), (fun i u _ hi => by rw [List.getElem?_map, hi]; rfl), hCU, hCB, hB, hR, hA, he⟩
  case round =>
    clear hCB hB hR hA he cm0 hCU
    obtain ⟨k, ur, rfl, hk, hlen, hrl, hrest, hCU, hCB, hB, hR, hA, he⟩ := hrel
    by_cases hlt : k < us.length
    · obtain ⟨u, hu⟩ := get_at us k hlt
      obtain ⟨hst0, hpl⟩ := hUo u (List.mem_of_getElem? hu)
      have hst := hst0.ext he
      obtain ⟨pa, pc, hpv, hpc⟩ := hst.shape
      have hrk := hrest.out k u (Nat.le_refl _) hu
      obtain ⟨cur, hcur, htk, hck, hkl, hkn⟩ := hCU.at hrl hrk (j := 1) (u := .slice pa u.roles.length pc) (by rw [← hpv]; rfl)
      have hne : us ≠ [] := fun e => by rw [e] at hlt; exact absurd hlt (Nat.not_lt_zero _)
      have haE := haU hne
      subst haE
      have cm : wr.cell? ⟨m, 4, none⟩ = some (.slice (some ⟨gU, 0, none⟩) us.length cU) := hB.cell rfl
      have ck := hcur.cell hck
      rw [hpv] at hst
      have hcl := cloneStrs (.slice pa u.roles.length pc) u.roles wr.drew (hst.ext (Ext.refl _).drawn) hpl
      have HRK : Hid (ur[k]? = some u.row) := hrk
      have HTK : Hid (cur.take (ur.length * 2) = ur.flatten) := htk
      clear hrk htk hpv hu
      have hS1 : (fun w' : World => w'.cell? ⟨m, 4, none⟩ = some (.slice (some ⟨gU, 0, none⟩) us.length cU) ∧ w'.cell? ⟨gU, k * 2 + 1, none⟩ = some (.slice pa u.roles.length pc)) wr.drew := ⟨cm, ck⟩
      go_upto_region 33 with fail
      refine (wpIn_wide (n := 5)).1 ?_
      refine wpIn_region_S (fun w' => w'.cell? ⟨m, 4, none⟩ = some (.slice (some ⟨gU, 0, none⟩) us.length cU) ∧ w'.cell? ⟨gU, k * 2 + 1, none⟩ = some (.slice pa u.roles.length pc)) 16 (by kernel_rfl) ?_
      change wpS _ _ _ _ _ _ _ 17 #[false, false, false, false, false, false, false, false, false, false, false, false, false, false, false, false, false] _ _
      refine wpS_take (i := 0) (v := .pointer (some ⟨m, 0, none⟩)) (fun _ => trivial) (by kernel_rfl) rfl (by kernel_rfl) (by kernel_rfl) (by kernel_rfl) (by kernel_rfl) (by kernel_rfl) (fun _ _ _ h => h) (Or.inl ⟨by kernel_rfl, ?_⟩) hS1 ?_
      · intro w' hSw; obtain ⟨s0, s1⟩ := hSw; go_simp
      simp only [Act.put, List.getElem_toArray, List.getElem_cons_zero, List.getElem_cons_succ, List.setIfInBounds_toArray, List.set_cons_zero, List.set_cons_succ]
      refine wpS_take (i := 1) (v := .pointer (some ⟨m, 0, none⟩)) (fun _ => trivial) (by kernel_rfl) rfl (by kernel_rfl) (by kernel_rfl) (by kernel_rfl) (by kernel_rfl) (by kernel_rfl) (fun _ _ _ h => h) (Or.inl ⟨by kernel_rfl, ?_⟩) hS1 ?_
      · intro w' hSw; obtain ⟨s0, s1⟩ := hSw; go_simp
      simp only [Act.put, List.getElem_toArray, List.getElem_cons_zero, List.getElem_cons_succ, List.setIfInBounds_toArray, List.set_cons_zero, List.set_cons_succ]
      refine wpS_take (i := 2) (v := .pointer (some ⟨m, 4, none⟩)) (fun _ => trivial) (by kernel_rfl) rfl (by kernel_rfl) (by kernel_rfl) (by kernel_rfl) (by kernel_rfl) (by kernel_rfl) (fun _ _ _ h => h) (Or.inl ⟨by kernel_rfl, ?_⟩) hS1 ?_
      · intro w' hSw; obtain ⟨s0, s1⟩ := hSw; go_simp
      simp only [Act.put, List.getElem_toArray, List.getElem_cons_zero, List.getElem_cons_succ, List.setIfInBounds_toArray, List.set_cons_zero, List.set_cons_succ]
      refine wpS_take (i := 3) (v := .slice (some ⟨gU, 0, none⟩) us.length cU) (fun _ => trivial) (by kernel_rfl) rfl (by kernel_rfl) (by kernel_rfl) (by kernel_rfl) (by kernel_rfl) (by kernel_rfl) (fun _ _ _ h => h) (Or.inl ⟨by kernel_rfl, ?_⟩) hS1 ?_
      · intro w' hSw; obtain ⟨s0, s1⟩ := hSw; go_simp
      simp only [Act.put, List.getElem_toArray, List.getElem_cons_zero, List.getElem_cons_succ, List.setIfInBounds_toArray, List.set_cons_zero, List.set_cons_succ]
      refine wpS_take (i := 4) (v := .int .i64 (k : Int)) (fun _ => trivial) (by kernel_rfl) rfl (by kernel_rfl) (by kernel_rfl) (by kernel_rfl) (by kernel_rfl) (by kernel_rfl) (fun _ _ _ h => h) (Or.inl ⟨by kernel_rfl, ?_⟩) hS1 ?_
      · intro w' hSw; obtain ⟨s0, s1⟩ := hSw; go_simp
      simp only [Act.put, List.getElem_toArray, List.getElem_cons_zero, List.getElem_cons_succ, List.setIfInBounds_toArray, List.set_cons_zero, List.set_cons_succ]
      refine wpS_take (i := 5) (v := .pointer (some ⟨m, 0, none⟩)) (fun _ => trivial) (by kernel_rfl) rfl (by kernel_rfl) (by kernel_rfl) (by kernel_rfl) (by kernel_rfl) (by kernel_rfl) (fun _ _ _ h => h) (Or.inl ⟨by kernel_rfl, ?_⟩) hS1 ?_
      · intro w' hSw; obtain ⟨s0, s1⟩ := hSw; go_simp
      simp only [Act.put, List.getElem_toArray, List.getElem_cons_zero, List.getElem_cons_succ, List.setIfInBounds_toArray, List.set_cons_zero, List.set_cons_succ]
      refine wpS_take (i := 6) (v := .pointer (some ⟨m, 0, none⟩)) (fun _ => trivial) (by kernel_rfl) rfl (by kernel_rfl) (by kernel_rfl) (by kernel_rfl) (by kernel_rfl) (by kernel_rfl) (fun _ _ _ h => h) (Or.inl ⟨by kernel_rfl, ?_⟩) hS1 ?_
      · intro w' hSw; obtain ⟨s0, s1⟩ := hSw; go_simp
      simp only [Act.put, List.getElem_toArray, List.getElem_cons_zero, List.getElem_cons_succ, List.setIfInBounds_toArray, List.set_cons_zero, List.set_cons_succ]
      refine wpS_take (i := 7) (v := .pointer (some ⟨m, 4, none⟩)) (fun _ => trivial) (by kernel_rfl) rfl (by kernel_rfl) (by kernel_rfl) (by kernel_rfl) (by kernel_rfl) (by kernel_rfl) (fun _ _ _ h => h) (Or.inl ⟨by kernel_rfl, ?_⟩) hS1 ?_
      · intro w' hSw; obtain ⟨s0, s1⟩ := hSw; go_simp
      simp only [Act.put, List.getElem_toArray, List.getElem_cons_zero, List.getElem_cons_succ, List.setIfInBounds_toArray, List.set_cons_zero, List.set_cons_succ]
      refine wpS_take (i := 8) (v := .slice (some ⟨gU, 0, none⟩) us.length cU) (fun _ => trivial) (by kernel_rfl) rfl (by kernel_rfl) (by kernel_rfl) (by kernel_rfl) (by kernel_rfl) (by kernel_rfl) (fun _ _ _ h => h) (Or.inl ⟨by kernel_rfl, ?_⟩) hS1 ?_
      · intro w' hSw; obtain ⟨s0, s1⟩ := hSw; go_simp
      simp only [Act.put, List.getElem_toArray, List.getElem_cons_zero, List.getElem_cons_succ, List.setIfInBounds_toArray, List.set_cons_zero, List.set_cons_succ]
      refine wpS_take (i := 9) (v := .int .i64 (k : Int)) (fun _ => trivial) (by kernel_rfl) rfl (by kernel_rfl) (by kernel_rfl) (by kernel_rfl) (by kernel_rfl) (by kernel_rfl) (fun _ _ _ h => h) (Or.inl ⟨by kernel_rfl, ?_⟩) hS1 ?_
      · intro w' hSw; obtain ⟨s0, s1⟩ := hSw; go_simp
      simp only [Act.put, List.getElem_toArray, List.getElem_cons_zero, List.getElem_cons_succ, List.setIfInBounds_toArray, List.set_cons_zero, List.set_cons_succ]
      refine wpS_take (i := 10) (v := .pointer (some ⟨gU, k * 2, none⟩)) (fun _ => trivial) (by kernel_rfl) rfl (by kernel_rfl) (by kernel_rfl) (by kernel_rfl) (by kernel_rfl) (by kernel_rfl) (fun _ _ _ h => h) (Or.inl ⟨by kernel_rfl, ?_⟩) hS1 ?_
      · intro w' hSw; obtain ⟨s0, s1⟩ := hSw; go_simp
      simp only [Act.put, List.getElem_toArray, List.getElem_cons_zero, List.getElem_cons_succ, List.setIfInBounds_toArray, List.set_cons_zero, List.set_cons_succ]
      refine wpS_take (i := 11) (v := .pointer (some ⟨gU, k * 2 + 1, none⟩)) (fun _ => trivial) (by kernel_rfl) rfl (by kernel_rfl) (by kernel_rfl) (by kernel_rfl) (by kernel_rfl) (by kernel_rfl) (fun _ _ _ h => h) (Or.inl ⟨by kernel_rfl, ?_⟩) hS1 ?_
      · intro w' hSw; obtain ⟨s0, s1⟩ := hSw; go_simp
      simp only [Act.put, List.getElem_toArray, List.getElem_cons_zero, List.getElem_cons_succ, List.setIfInBounds_toArray, List.set_cons_zero, List.set_cons_succ]
      refine wpS_take (i := 12) (v := .slice pa u.roles.length pc) (fun _ => trivial) (by kernel_rfl) rfl (by kernel_rfl) (by kernel_rfl) (by kernel_rfl) (by kernel_rfl) (by kernel_rfl) (fun _ _ _ h => h) (Or.inl ⟨by kernel_rfl, ?_⟩) hS1 ?_
      · intro w' hSw; obtain ⟨s0, s1⟩ := hSw; go_simp
      simp only [Act.put, List.getElem_toArray, List.getElem_cons_zero, List.getElem_cons_succ, List.setIfInBounds_toArray, List.set_cons_zero, List.set_cons_succ]
      refine wpS_one (i := 13) (by kernel_rfl) rfl (by kernel_rfl) (fun K hK => ?_)
      gi_wp2_with (refine ⟨trivial, ?_⟩; gi_at_call 42; refine (callsIn_wide.2 hcl).mono ?_; rintro e wc ⟨v', rfl, hcd, hxc⟩)
      have hcs := cloned_strs hcd hst.2
      obtain ⟨av, cv, hav, hcv, _⟩ := hcd
      rw [List.length_map] at hav
      subst hav
      have hS2 : (fun w' : World => w'.cell? ⟨m, 4, none⟩ = some (.slice (some ⟨gU, 0, none⟩) us.length cU) ∧ w'.cell? ⟨gU, k * 2 + 1, none⟩ = some (.slice pa u.roles.length pc)) wc := ⟨hxc.cell cm, hxc.cell ck⟩
      refine hK _ _ (Or.inl hS2) ?_
      clear hK
      simp only [Act.put, List.getElem_toArray, List.getElem_cons_zero, List.getElem_cons_succ, List.setIfInBounds_toArray, List.set_cons_zero, List.set_cons_succ]
      refine wpS_take (i := 14) (v := .pointer (some ⟨gU, k * 2, none⟩)) (fun _ => trivial) (by kernel_rfl) rfl (by kernel_rfl) (by kernel_rfl) (by kernel_rfl) (by kernel_rfl) (by kernel_rfl) (fun _ _ _ h => h) (Or.inl ⟨by kernel_rfl, ?_⟩) hS2 ?_
      · intro w' hSw; obtain ⟨s0, s1⟩ := hSw; go_simp
      simp only [Act.put, List.getElem_toArray, List.getElem_cons_zero, List.getElem_cons_succ, List.setIfInBounds_toArray, List.set_cons_zero, List.set_cons_succ]
      refine wpS_take (i := 15) (v := .pointer (some ⟨gU, k * 2 + 1, none⟩)) (fun _ => trivial) (by kernel_rfl) rfl (by kernel_rfl) (by kernel_rfl) (by kernel_rfl) (by kernel_rfl) (by kernel_rfl) (fun _ _ _ h => h) (Or.inl ⟨by kernel_rfl, ?_⟩) hS2 ?_
      · intro w' hSw; obtain ⟨s0, s1⟩ := hSw; go_simp
      simp only [Act.put, List.getElem_toArray, List.getElem_cons_zero, List.getElem_cons_succ, List.setIfInBounds_toArray, List.set_cons_zero, List.set_cons_succ]
      refine wpS_one (i := 16) (by kernel_rfl) rfl (by kernel_rfl) (fun K hK => ?_)
      refine wpIn_stN (fun _ => trivial) 26 (.tmp 164) (.tmp 162) (by rfl) gU (k * 2 + 1) cur (.slice av u.roles.length cv) [.slice av u.roles.length cv] (by rfl) (hcur.ext ((Ext.refl _).drawn.trans hxc)) (by rfl) rfl Try.info26 (by simp; omega) (by simp [Value.oneCell']) ?_
      intro w2 hb2 hg2
      rw [setR1 hkl] at hb2
      refine hK _ _ (Or.inr (by kernel_rfl)) ?_
      clear hK
      simp only [Act.put, List.getElem_toArray, List.getElem_cons_zero, List.getElem_cons_succ, List.setIfInBounds_toArray, List.set_cons_zero, List.set_cons_succ]
      refine wpS_done (by kernel_rfl) ?_ _
      go_wp2
      go_roundw
      case rel =>
        have hxw : Ext wr wc := (Ext.refl _).drawn.trans hxc
        refine ⟨k + 1, ur.set k (u.row.set 1 (.slice av u.roles.length cv)), by go_num, by omega, by simp [hlen], ?_, ?_, CB.put hb2 HTK.out hrl HRK.out (by decide) hkn, (hCB.ext hxw).kept hg2 (sne nus.symm), (hB.ext hxw).kept hg2 (sne num.symm), (hR.ext hxw).keptN hg2 hRu (fun r hr b hb => mapAt_ne (by have := (hR.2 r hr).2.2.2.2; rw [hb] at this; exact this) hcur), (hA.ext hxw).kept hg2 (sne (hA.blk_ne hcur).symm), ext_st (he.trans hxw) hg2 uB⟩
        · intro x hx
          rcases List.mem_or_eq_of_mem_set hx with h | rfl
          · exact hrl x h
          · rfl
        · intro i u' hi hu'
          rw [List.getElem?_set_ne (by omega)]
          exact hrest.out i u' (by omega) hu'
      case measure => simp [intOf]; omega
    · obtain rfl : k = us.length := by omega
      clear hCU
      repeat (first | (exact newModel_t15 os rs rl ss sl an A T m bR bA Nr aa ca vO vR0 vU0 vS0 w wB wr hn hns hna hwB he hT hmr hW han hrc hsc mB aB nmA bO (.slice aU us.length cU) bU vc vd vR gS aS cS hB hR hRm hRg hrb hCB haS hcS hSo hA gB ngm hdest hnp) | go_values | go_skip | go_guarded | go_step | go_upon | (simp only [Int.not_lt, Int.not_le] at *; go_simp))

def RoOk (w : World) (r : Role) : Prop := okStr r.id ∧ okStr r.name ∧ okStr r.org ∧ (∀ g ∈ r.grants, okStr g.name ∧ wf64 g.scope) ∧ MapAt w r.gv r.grants
set_option maxRecDepth 1000000 in
set_option maxHeartbeats 6400000 in
theorem newModel_t13 {x0 x2 x3 x5 x6 x7 x8 x9 x10 x11 x13 x14 x15 x16 x17 x18 x19 x20 x21 x22 x23 x24 x25 x26 x27 x28 x29 x30 x31 x32 x33 x34 x35 x36 x37 x38 x39 x40 x41 x42 x43 x44 x45 x46 x47 x48 x49 x50 x51 x52 x53 x54 x55 x56 x57 x58 x59 x60 x61 x62 x63 x64 x65 x66 x67 x68 x69 x70 x71 x72 x73 x74 x75 x76 x77 x78 x79 x80 x81 x82 x83 x84 x85 x86 x87 x88 x89 x90 x91 x92 x93 x94 x95 x96 x97 x98 x99 x100 x101 x102 x103 x104 x105 x106 x107 x108 x109 x110 x111 x112 x113 x114 x115 x116 x117 x118 x119 x120 x121 x122 x123 x124 x125 x126 x127 x128 x129 x130 x131 x132 x133 x134 x135 x136 x137 x138 x139 x140 x141 x142 x143 x144 x145 x146 x147 x148 x149 x150 x151 x152 x153 x154 x155 x156 x157 x158 x159 x160 x161 x162 x163 x164 x165 x166 x167 x168 x169 x170 x171 x172 x173 x174 x175 x176 x177 x178 x179 x180 x181 x182 x183 x184 x185 x186 x187 x188 x189 x190 x191 x192 x193 x194 x195 x196 x197 x198 x199 x200 x201 x202 x203 x204 x205 x206 x207 x208 x209 x210 x211 x212 x213 x214 : Value} (os : List Org) (rs rl : List Role) (ss sl : List Share) (an : List ByteArray) (A T m bR bA Nr : Nat) (aa : Option Addr) (ca : Nat) (vO vR0 vU0 vS0 : Value) (w wB wr0 : World)
    (hn : os.length ≤ 1048576) (hns : sl.length ≤ 1048576) (hna : an.length ≤ 1048576) (hwB : Ext w wB) (he : Ext wB wr0) (hT : TreeAt wB T os) (hmr : SM wB 3 bR Nr (posF (rs.map Role.id) (rs.map Role.id).length)) (hW : Blk wB A [vO, vR0, vU0, vS0, .slice none 0 0, .slice aa an.length ca]) (han : StrsAt wB (.slice aa an.length ca) an)
    (hrc : Hid (rl.map Role.core = rs.map Role.core)) (hsc : Hid (sl.map Share.core = ss.map Share.core)) (mB : wB.heap.size ≤ m) (aB : wB.heap.size ≤ bA) (nmA : m ≠ bA) (us : List User) (bO bU vc vd : Value) (gS gU gR : Nat) (aS aU aR : Option Addr) (cS cU cR : Nat) (hB : Blk wr0 m [.pointer (some ⟨T, 0, none⟩), bO, .slice aR rl.length cR, .map (some bR), .slice aU us.length cU, bU, .slice aS sl.length cS, .slice none 0 0, .slice none 0 0, vc, vd, .map (some bA)])
    (hCB : CB wr0 gS 5 (sl.map Share.row)) (haS : sl ≠ [] → aS = some ⟨gS, 0, none⟩) (hcS : sl.length ≤ cS) (hSo : ∀ s ∈ sl, ShOk wB gS m s) (hA : SM wr0 4 bA 0 (setF [])) (gB : wB.heap.size ≤ gS) (ngm : gS ≠ m) (hdest : ∀ s ∈ sl, s.dest ∈ os.map Org.id) (hnp : ∀ s ∈ sl, s.perms.length ≤ 1048576)
    (hCU : CB wr0 gU 2 (us.map User.row)) (haU : us ≠ [] → aU = some ⟨gU, 0, none⟩) (hnu : us.length ≤ 1048576) (hUo : ∀ u ∈ us, StrsAt wB u.rv u.roles ∧ u.roles.length ≤ 1048576) (uB : wB.heap.size ≤ gU) (num : gU ≠ m) (nus : gU ≠ gS)
    (hCR : CB wr0 gR 4 (rl.map Role.row)) (haR : rl ≠ [] → aR = some ⟨gR, 0, none⟩) (hcR : rl.length ≤ cR) (hnr : rl.length ≤ 1048576) (hRo : ∀ r ∈ rl, RoOk wB r) (rB : wB.heap.size ≤ gR) (nrm : gR ≠ m) (nrs : gR ≠ gS) (nru : gR ≠ gU) :
    Code.wp Try.prog (dropSeq 13 (Try.f10.body.getD .skip)) (bodyPost Try.prog Try.f10 (NewPost os rs ss an w)) ⟨#[x0, .pointer (some ⟨A, 0, none⟩), x2, x3, .pointer (some ⟨T, 0, none⟩), x5, x6, x7, x8, x9, x10, x11, .pointer (some ⟨m, 0, none⟩), x13, x14, x15, x16, x17, x18, x19, x20, x21, x22, x23, x24, x25, x26, x27, x28, x29, x30, x31, x32, x33, x34, x35, x36, x37, x38, x39, x40, x41, x42, x43, x44, x45, x46, x47, x48, x49, x50, x51, x52, x53, x54, x55, x56, x57, x58, x59, x60, x61, x62, x63, x64, x65, x66, x67, x68, x69, x70, x71, x72, x73, x74, x75, x76, x77, x78, x79, x80, x81, x82, x83, x84, x85, x86, x87, x88, x89, x90, x91, x92, x93, x94, x95, x96, x97, x98, x99, x100, x101, x102, x103, x104, x105, x106, x107, x108, x109, x110, x111, x112, x113, x114, x115, x116, x117, x118, x119, x120, x121, x122, x123, x124, x125, x126, x127, x128, x129, x130, x131, x132, x133, x134, x135, x136, x137, x138, x139, x140, x141, x142, x143, x144, x145, x146, x147, x148, x149, x150, x151, x152, x153, x154, x155, x156, x157, x158, x159, x160, x161, x162, x163, x164, x165, x166, x167, x168, x169, x170, x171, x172, x173, x174, x175, x176, x177, x178, x179, x180, x181, x182, x183, x184, x185, x186, x187, x188, x189, x190, x191, x192, x193, x194, x195, x196, x197, x198, x199, x200, x201, x202, x203, x204, x205, x206, x207, x208, x209, x210, x211, x212, x213, x214], []⟩ wr0 := by
  conv => arg 2; whnf
  have cm0 : wr0.cell? ⟨m, 2, none⟩ = some (.slice aR rl.length cR) := hB.cell rfl
  go_wp2_with fail
  go_loopw [121] (fun j wr => ∃ (k : Nat) (rl' : List Role), j = .int .i64 k ∧ k ≤ rl.length ∧ Hid (rl'.map Role.core = rl.map Role.core) ∧ CB wr gR 4 (rl'.map Role.row) ∧ (∀ r ∈ rl', RoOk wr r ∧ ∀ b, r.gv = .map (some b) → b ≠ bA) ∧ CB wr gU 2 (us.map User.row) ∧ CB wr gS 5 (sl.map Share.row) ∧ Blk wr m [.pointer (some ⟨T, 0, none⟩), bO, .slice aR rl.length cR, .map (some bR), .slice aU us.length cU, bU, .slice aS sl.length cS, .slice none 0 0, .slice none 0 0, vc, vd, .map (some bA)] ∧ SM wr 4 bA 0 (setF []) ∧ Ext wB wr) (fun i _ => rl.length - (intOf i).toNat)
  case atStart => exact ⟨0, rl, rfl, Nat.zero_le _, rfl, hCR, fun r hr => ⟨⟨(hRo r hr).1, (hRo r hr).2.1, (hRo r hr).2.2.1, (hRo r hr).2.2.2.1, (hRo r hr).2.2.2.2.ext he⟩, fun b hb => by
      have hm := (hRo r hr).2.2.2.2
      rw [hb] at hm
      rcases hm with h | ⟨b', hb', hs⟩
      · cases h.1
      · cases hb'; have := hs.lt; omega⟩, hCU, hCB, hB, hA, he⟩
  case round =>
    clear hCB hB hA he cm0 hCU hCR
    obtain ⟨k, rl', rfl, hk, hco, hCR, hRk, hCU, hCB, hB, hA, he⟩ := hrel
    have hlen := core_len hco.out
    by_cases hlt : k < rl.length
    · obtain ⟨r, hr⟩ := get_at rl' k (by omega)
      obtain ⟨hok, hbne⟩ := hRk r (List.mem_of_getElem? hr)
      obtain ⟨mo, hmo⟩ := hok.2.2.2.2.shape
      have hrl : ∀ x ∈ rl'.map Role.row, x.length = 4 := by intro x hx; obtain ⟨q, _, rfl⟩ := List.mem_map.1 hx; rfl
      have hrk : (rl'.map Role.row)[k]? = some r.row := by rw [List.getElem?_map, hr]; rfl
      obtain ⟨cur, hcur, htk, hck, hkl, hkn⟩ := hCR.at hrl hrk (j := 3) (u := .map mo) (by rw [← hmo]; rfl)
      have hne : rl ≠ [] := fun e => by rw [e] at hlt; exact absurd hlt (Nat.not_lt_zero _)
      have haE := haR hne
      subst haE
      have cm : wr.cell? ⟨m, 2, none⟩ = some (.slice (some ⟨gR, 0, none⟩) rl.length cR) := hB.cell rfl
      have ck := hcur.cell hck
      have hmap := hok.2.2.2.2
      rw [hmo] at hmap
      have hcl := mapClone_any (.map mo) r.grants wr.drew (hmap.ext (Ext.refl _).drawn)
      have hAl := hA.lt
      have HSH : Hid (rl'[k]? = some r) := hr
      have HRK : Hid ((rl'.map Role.row)[k]? = some r.row) := hrk
      have HTK : Hid (cur.take ((rl'.map Role.row).length * 4) = (rl'.map Role.row).flatten) := htk
      clear hr hrk htk hmo
      have hS1 : (fun w' : World => w'.cell? ⟨m, 2, none⟩ = some (.slice (some ⟨gR, 0, none⟩) rl.length cR) ∧ w'.cell? ⟨gR, k * 4 + 3, none⟩ = some (.map mo)) wr.drew := ⟨cm, ck⟩
      go_upto_region 28 with fail
      refine (wpIn_wide (n := 5)).1 ?_
      refine wpIn_region_S (fun w' => w'.cell? ⟨m, 2, none⟩ = some (.slice (some ⟨gR, 0, none⟩) rl.length cR) ∧ w'.cell? ⟨gR, k * 4 + 3, none⟩ = some (.map mo)) 16 (by kernel_rfl) ?_
      change wpS _ _ _ _ _ _ _ 17 #[false, false, false, false, false, false, false, false, false, false, false, false, false, false, false, false, false] _ _
      refine wpS_take (i := 0) (v := .pointer (some ⟨m, 0, none⟩)) (fun _ => trivial) (by kernel_rfl) rfl (by kernel_rfl) (by kernel_rfl) (by kernel_rfl) (by kernel_rfl) (by kernel_rfl) (fun _ _ _ h => h) (Or.inl ⟨by kernel_rfl, ?_⟩) hS1 ?_
      · intro w' hSw; obtain ⟨s0, s1⟩ := hSw; go_simp
      simp only [Act.put, List.getElem_toArray, List.getElem_cons_zero, List.getElem_cons_succ, List.setIfInBounds_toArray, List.set_cons_zero, List.set_cons_succ]
      refine wpS_take (i := 1) (v := .pointer (some ⟨m, 0, none⟩)) (fun _ => trivial) (by kernel_rfl) rfl (by kernel_rfl) (by kernel_rfl) (by kernel_rfl) (by kernel_rfl) (by kernel_rfl) (fun _ _ _ h => h) (Or.inl ⟨by kernel_rfl, ?_⟩) hS1 ?_
      · intro w' hSw; obtain ⟨s0, s1⟩ := hSw; go_simp
      simp only [Act.put, List.getElem_toArray, List.getElem_cons_zero, List.getElem_cons_succ, List.setIfInBounds_toArray, List.set_cons_zero, List.set_cons_succ]
      refine wpS_take (i := 2) (v := .pointer (some ⟨m, 2, none⟩)) (fun _ => trivial) (by kernel_rfl) rfl (by kernel_rfl) (by kernel_rfl) (by kernel_rfl) (by kernel_rfl) (by kernel_rfl) (fun _ _ _ h => h) (Or.inl ⟨by kernel_rfl, ?_⟩) hS1 ?_
      · intro w' hSw; obtain ⟨s0, s1⟩ := hSw; go_simp
      simp only [Act.put, List.getElem_toArray, List.getElem_cons_zero, List.getElem_cons_succ, List.setIfInBounds_toArray, List.set_cons_zero, List.set_cons_succ]
      refine wpS_take (i := 3) (v := .slice (some ⟨gR, 0, none⟩) rl.length cR) (fun _ => trivial) (by kernel_rfl) rfl (by kernel_rfl) (by kernel_rfl) (by kernel_rfl) (by kernel_rfl) (by kernel_rfl) (fun _ _ _ h => h) (Or.inl ⟨by kernel_rfl, ?_⟩) hS1 ?_
      · intro w' hSw; obtain ⟨s0, s1⟩ := hSw; go_simp
      simp only [Act.put, List.getElem_toArray, List.getElem_cons_zero, List.getElem_cons_succ, List.setIfInBounds_toArray, List.set_cons_zero, List.set_cons_succ]
      refine wpS_take (i := 4) (v := .int .i64 (k : Int)) (fun _ => trivial) (by kernel_rfl) rfl (by kernel_rfl) (by kernel_rfl) (by kernel_rfl) (by kernel_rfl) (by kernel_rfl) (fun _ _ _ h => h) (Or.inl ⟨by kernel_rfl, ?_⟩) hS1 ?_
      · intro w' hSw; obtain ⟨s0, s1⟩ := hSw; go_simp
      simp only [Act.put, List.getElem_toArray, List.getElem_cons_zero, List.getElem_cons_succ, List.setIfInBounds_toArray, List.set_cons_zero, List.set_cons_succ]
      refine wpS_take (i := 5) (v := .pointer (some ⟨m, 0, none⟩)) (fun _ => trivial) (by kernel_rfl) rfl (by kernel_rfl) (by kernel_rfl) (by kernel_rfl) (by kernel_rfl) (by kernel_rfl) (fun _ _ _ h => h) (Or.inl ⟨by kernel_rfl, ?_⟩) hS1 ?_
      · intro w' hSw; obtain ⟨s0, s1⟩ := hSw; go_simp
      simp only [Act.put, List.getElem_toArray, List.getElem_cons_zero, List.getElem_cons_succ, List.setIfInBounds_toArray, List.set_cons_zero, List.set_cons_succ]
      refine wpS_take (i := 6) (v := .pointer (some ⟨m, 0, none⟩)) (fun _ => trivial) (by kernel_rfl) rfl (by kernel_rfl) (by kernel_rfl) (by kernel_rfl) (by kernel_rfl) (by kernel_rfl) (fun _ _ _ h => h) (Or.inl ⟨by kernel_rfl, ?_⟩) hS1 ?_
      · intro w' hSw; obtain ⟨s0, s1⟩ := hSw; go_simp
      simp only [Act.put, List.getElem_toArray, List.getElem_cons_zero, List.getElem_cons_succ, List.setIfInBounds_toArray, List.set_cons_zero, List.set_cons_succ]
      refine wpS_take (i := 7) (v := .pointer (some ⟨m, 2, none⟩)) (fun _ => trivial) (by kernel_rfl) rfl (by kernel_rfl) (by kernel_rfl) (by kernel_rfl) (by kernel_rfl) (by kernel_rfl) (fun _ _ _ h => h) (Or.inl ⟨by kernel_rfl, ?_⟩) hS1 ?_
      · intro w' hSw; obtain ⟨s0, s1⟩ := hSw; go_simp
      simp only [Act.put, List.getElem_toArray, List.getElem_cons_zero, List.getElem_cons_succ, List.setIfInBounds_toArray, List.set_cons_zero, List.set_cons_succ]
      refine wpS_take (i := 8) (v := .slice (some ⟨gR, 0, none⟩) rl.length cR) (fun _ => trivial) (by kernel_rfl) rfl (by kernel_rfl) (by kernel_rfl) (by kernel_rfl) (by kernel_rfl) (by kernel_rfl) (fun _ _ _ h => h) (Or.inl ⟨by kernel_rfl, ?_⟩) hS1 ?_
      · intro w' hSw; obtain ⟨s0, s1⟩ := hSw; go_simp
      simp only [Act.put, List.getElem_toArray, List.getElem_cons_zero, List.getElem_cons_succ, List.setIfInBounds_toArray, List.set_cons_zero, List.set_cons_succ]
      refine wpS_take (i := 9) (v := .int .i64 (k : Int)) (fun _ => trivial) (by kernel_rfl) rfl (by kernel_rfl) (by kernel_rfl) (by kernel_rfl) (by kernel_rfl) (by kernel_rfl) (fun _ _ _ h => h) (Or.inl ⟨by kernel_rfl, ?_⟩) hS1 ?_
      · intro w' hSw; obtain ⟨s0, s1⟩ := hSw; go_simp
      simp only [Act.put, List.getElem_toArray, List.getElem_cons_zero, List.getElem_cons_succ, List.setIfInBounds_toArray, List.set_cons_zero, List.set_cons_succ]
      refine wpS_take (i := 10) (v := .pointer (some ⟨gR, k * 4, none⟩)) (fun _ => trivial) (by kernel_rfl) rfl (by kernel_rfl) (by kernel_rfl) (by kernel_rfl) (by kernel_rfl) (by kernel_rfl) (fun _ _ _ h => h) (Or.inl ⟨by kernel_rfl, ?_⟩) hS1 ?_
      · intro w' hSw; obtain ⟨s0, s1⟩ := hSw; go_simp
      simp only [Act.put, List.getElem_toArray, List.getElem_cons_zero, List.getElem_cons_succ, List.setIfInBounds_toArray, List.set_cons_zero, List.set_cons_succ]
      refine wpS_take (i := 11) (v := .pointer (some ⟨gR, k * 4 + 3, none⟩)) (fun _ => trivial) (by kernel_rfl) rfl (by kernel_rfl) (by kernel_rfl) (by kernel_rfl) (by kernel_rfl) (by kernel_rfl) (fun _ _ _ h => h) (Or.inl ⟨by kernel_rfl, ?_⟩) hS1 ?_
      · intro w' hSw; obtain ⟨s0, s1⟩ := hSw; go_simp
      simp only [Act.put, List.getElem_toArray, List.getElem_cons_zero, List.getElem_cons_succ, List.setIfInBounds_toArray, List.set_cons_zero, List.set_cons_succ]
      refine wpS_take (i := 12) (v := .map mo) (fun _ => trivial) (by kernel_rfl) rfl (by kernel_rfl) (by kernel_rfl) (by kernel_rfl) (by kernel_rfl) (by kernel_rfl) (fun _ _ _ h => h) (Or.inl ⟨by kernel_rfl, ?_⟩) hS1 ?_
      · intro w' hSw; obtain ⟨s0, s1⟩ := hSw; go_simp
      simp only [Act.put, List.getElem_toArray, List.getElem_cons_zero, List.getElem_cons_succ, List.setIfInBounds_toArray, List.set_cons_zero, List.set_cons_succ]
      refine wpS_one (i := 13) (by kernel_rfl) rfl (by kernel_rfl) (fun K hK => ?_)
      gi_wp2_with (refine ⟨trivial, ?_⟩; gi_at_call 41; refine (callsIn_wide.2 hcl).mono ?_; rintro e wc ⟨mv', rfl, hmi, hxc⟩)
      obtain ⟨mv, rfl⟩ := hmi.shape
      have hS2 : (fun w' : World => w'.cell? ⟨m, 2, none⟩ = some (.slice (some ⟨gR, 0, none⟩) rl.length cR) ∧ w'.cell? ⟨gR, k * 4 + 3, none⟩ = some (.map mo)) wc := ⟨hxc.cell cm, hxc.cell ck⟩
      refine hK _ _ (Or.inl hS2) ?_
      clear hK
      simp only [Act.put, List.getElem_toArray, List.getElem_cons_zero, List.getElem_cons_succ, List.setIfInBounds_toArray, List.set_cons_zero, List.set_cons_succ]
      refine wpS_take (i := 14) (v := .pointer (some ⟨gR, k * 4, none⟩)) (fun _ => trivial) (by kernel_rfl) rfl (by kernel_rfl) (by kernel_rfl) (by kernel_rfl) (by kernel_rfl) (by kernel_rfl) (fun _ _ _ h => h) (Or.inl ⟨by kernel_rfl, ?_⟩) hS2 ?_
      · intro w' hSw; obtain ⟨s0, s1⟩ := hSw; go_simp
      simp only [Act.put, List.getElem_toArray, List.getElem_cons_zero, List.getElem_cons_succ, List.setIfInBounds_toArray, List.set_cons_zero, List.set_cons_succ]
      refine wpS_take (i := 15) (v := .pointer (some ⟨gR, k * 4 + 3, none⟩)) (fun _ => trivial) (by kernel_rfl) rfl (by kernel_rfl) (by kernel_rfl) (by kernel_rfl) (by kernel_rfl) (by kernel_rfl) (fun _ _ _ h => h) (Or.inl ⟨by kernel_rfl, ?_⟩) hS2 ?_
      · intro w' hSw; obtain ⟨s0, s1⟩ := hSw; go_simp
      simp only [Act.put, List.getElem_toArray, List.getElem_cons_zero, List.getElem_cons_succ, List.setIfInBounds_toArray, List.set_cons_zero, List.set_cons_succ]
      refine wpS_one (i := 16) (by kernel_rfl) rfl (by kernel_rfl) (fun K hK => ?_)
      refine wpIn_stN (fun _ => trivial) 95 (.tmp 139) (.tmp 137) (by rfl) gR (k * 4 + 3) cur (.map mv) [.map mv] (by rfl) (hcur.ext ((Ext.refl _).drawn.trans hxc)) (by rfl) rfl Try.info95 (by simp; omega) (by simp [Value.oneCell']) ?_
      intro w2 hb2 hg2
      rw [setR1 hkl] at hb2
      refine hK _ _ (Or.inr (by kernel_rfl)) ?_
      clear hK
      simp only [Act.put, List.getElem_toArray, List.getElem_cons_zero, List.getElem_cons_succ, List.setIfInBounds_toArray, List.set_cons_zero, List.set_cons_succ]
      refine wpS_done (by kernel_rfl) ?_ _
      go_wp2
      go_roundw
      case rel =>
        have hxw : Ext wr wc := (Ext.refl _).drawn.trans hxc
        have hco2 : (rl'.set k { r with gv := .map mv }).map Role.core = rl.map Role.core := (core_set (y := { r with gv := .map mv }) HSH.out rfl).trans hco.out
        have hbk : ∀ (r' : Role), MapAt wr r'.gv r'.grants → MapAt w2 r'.gv r'.grants := fun r' h => (h.ext hxw).keptG hg2 (fun b hb => mapAt_ne (by rw [hb] at h; exact h) hcur)
        refine ⟨k + 1, rl'.set k { r with gv := .map mv }, by go_num, by omega, (show Hid _ from hco2), ?_, ?_, (hCU.ext hxw).kept hg2 (sne nru.symm), (hCB.ext hxw).kept hg2 (sne nrs.symm), (hB.ext hxw).kept hg2 (sne nrm.symm), (hA.ext hxw).kept hg2 (sne (hA.blk_ne hcur).symm), ext_st (he.trans hxw) hg2 rB⟩
        · rw [List.map_set]
          exact CB.put hb2 HTK.out hrl HRK.out (by decide) hkn
        · intro r' hr'
          rcases List.mem_or_eq_of_mem_set hr' with h | rfl
          · have := hRk r' h
            exact ⟨⟨this.1.1, this.1.2.1, this.1.2.2.1, this.1.2.2.2.1, hbk r' this.1.2.2.2.2⟩, this.2⟩
          · refine ⟨⟨hok.1, hok.2.1, hok.2.2.1, hok.2.2.2.1, ?_⟩, fun b hb => ?_⟩
            · rcases hmi with ⟨h1, h2⟩ | ⟨b, h1, h2, h3⟩
              · exact Or.inl ⟨h1, h2⟩
              · exact Or.inr ⟨b, h1, h3.kept hg2 (sne (h3.blk_ne (hcur.ext hxw)).symm)⟩
            · rcases hmi with ⟨h1, h2⟩ | ⟨b', h1, h2, h3⟩
              · have hb' : (Value.map mv) = .map (some b) := hb
                rw [h1] at hb'; cases hb'
              · have hb' : (Value.map mv) = .map (some b) := hb
                rw [h1] at hb'; cases hb'
                have : wr.heap.size ≤ b := h2
                omega
      case measure => simp [intOf]; omega
    · obtain rfl : k = rl.length := by omega
      have hrl : ∀ x ∈ rl'.map Role.row, x.length = 4 := by intro x hx; obtain ⟨q, _, rfl⟩ := List.mem_map.1 hx; rfl
      have hRA : RolesM wr (.slice aR rl'.length cR) rl' := ⟨by
        have := hCR.rows hrl (a := aR) (cap := cR) (fun hne => haR (fun e => by rw [e] at hlen; rw [List.length_eq_zero_iff.1 hlen] at hne; exact hne rfl)) (by rw [List.length_map]; omega)
        rw [List.length_map] at this
        exact this, fun r hr => (hRk r hr).1⟩
      have hRn : ∀ g, gR ≠ g → RowsNe (.slice aR rl'.length cR) g := fun g hg a n c e hn => by
        cases e
        have := haR (fun e => hn (by rw [hlen, e]; rfl))
        cases this
        exact hg
      have hrc' : Hid (rl'.map Role.core = rs.map Role.core) := hco.out.trans hrc.out
      rw [← hlen] at hB
      clear hCR
      repeat (first | (exact newModel_t14 os rs rl' ss sl an A T m bR bA Nr aa ca vO vR0 vU0 vS0 w wB wr hn hns hna hwB he hT hmr hW han hrc' hsc mB aB nmA us bO bU vc vd (.slice aR rl'.length cR) gS gU aS aU cS cU hB hRA (hRn m nrm) (hRn gS nrs) (hRn gU nru) (fun r hr => (hRk r hr).2) hCB haS hcS hSo hA gB ngm hdest hnp hCU haU hnu hUo uB num nus) | go_values | go_skip | go_guarded | go_step | go_upon | (simp only [Int.not_lt, Int.not_le] at *; go_simp))


end Go.Proofs.Qxb6609292a
