/-
  WALKS for seat b6609292a: NewModel, the statement that lays the model.
-/
import Derived.Test.Qxb6609292aNewE
set_option linter.unusedVariables false
set_option linter.unusedSimpArgs false
namespace Go.Proofs.Qxb6609292a
open Go.RowKit Go.Maps
attribute [local go_sem] Oper.semAt_some

set_option maxRecDepth 1000000 in
set_option maxHeartbeats 12800000 in
theorem newModel_t11 {x0 x2 x3 x5 x8 x9 x11 x12 x13 x14 x15 x16 x17 x18 x19 x20 x21 x22 x23 x24 x25 x26 x27 x28 x29 x30 x31 x32 x33 x34 x35 x36 x37 x38 x39 x40 x41 x42 x43 x44 x45 x46 x47 x48 x49 x50 x51 x52 x53 x54 x55 x56 x57 x58 x59 x60 x61 x62 x63 x64 x65 x66 x67 x68 x69 x70 x71 x72 x73 x74 x75 x76 x77 x78 x79 x80 x81 x82 x83 x84 x85 x86 x87 x88 x89 x90 x91 x92 x93 x94 x95 x96 x97 x98 x99 x100 x101 x102 x103 x104 x105 x106 x107 x108 x109 x110 x111 x112 x113 x114 x115 x116 x117 x118 x119 x120 x121 x122 x123 x124 x125 x126 x127 x128 x129 x130 x131 x132 x133 x134 x135 x136 x137 x138 x139 x140 x141 x142 x143 x144 x145 x146 x147 x148 x149 x150 x151 x152 x153 x154 x155 x156 x157 x158 x159 x160 x161 x162 x163 x164 x165 x166 x167 x168 x169 x170 x171 x172 x173 x174 x175 x176 x177 x178 x179 x180 x181 x182 x183 x184 x185 x186 x187 x188 x189 x190 x191 x192 x193 x194 x195 x196 x197 x198 x199 x200 x201 x202 x203 x204 x205 x206 x207 x208 x209 x210 x211 x212 x213 x214 : Value} (os : List Org) (rl : List Role) (us : List User) (sl : List Share) (an : List ByteArray) (A T bR Nr : Nat) (ao ar au ash aa : Option Addr) (co cr cu csh ca : Nat) (bUn bC : Nat) (w wB : World)
    (hn : os.length ≤ 1048576) (hnr : rl.length ≤ 1048576) (hnu : us.length ≤ 1048576) (hns : sl.length ≤ 1048576) (hna : an.length ≤ 1048576) (hwB : Ext w wB) (hT : TreeAt wB T os) (hmr : SM wB 3 bR Nr (posF (rl.map Role.id) (rl.map Role.id).length)) (hW : Blk wB A [.slice ao os.length co, .slice ar rl.length cr, .slice au us.length cu, .slice ash sl.length csh, .slice none 0 0, .slice aa an.length ca])
    (hos : OrgsAt wB (.slice ao os.length co) os) (hRs : RolesM wB (.slice ar rl.length cr) rl) (hUs : UsersAt wB (.slice au us.length cu) us) (hSs : SharesAt wB (.slice ash sl.length csh) sl) (han : StrsAt wB (.slice aa an.length ca) an) (hur : ∀ u ∈ us, u.roles.length ≤ 1048576) (hnp : ∀ s ∈ sl, s.perms.length ≤ 1048576) (hdest : ∀ s ∈ sl, s.dest ∈ os.map Org.id) :
    Code.wp Try.prog (dropSeq 11 (Try.f10.body.getD .skip)) (bodyPost Try.prog Try.f10 (NewPost os rl sl an w)) ⟨#[x0, .pointer (some ⟨A, 0, none⟩), x2, x3, .pointer (some ⟨T, 0, none⟩), x5, .map (some bR), .map (some bUn), x8, x9, .map (some bC), x11, x12, x13, x14, x15, x16, x17, x18, x19, x20, x21, x22, x23, x24, x25, x26, x27, x28, x29, x30, x31, x32, x33, x34, x35, x36, x37, x38, x39, x40, x41, x42, x43, x44, x45, x46, x47, x48, x49, x50, x51, x52, x53, x54, x55, x56, x57, x58, x59, x60, x61, x62, x63, x64, x65, x66, x67, x68, x69, x70, x71, x72, x73, x74, x75, x76, x77, x78, x79, x80, x81, x82, x83, x84, x85, x86, x87, x88, x89, x90, x91, x92, x93, x94, x95, x96, x97, x98, x99, x100, x101, x102, x103, x104, x105, x106, x107, x108, x109, x110, x111, x112, x113, x114, x115, x116, x117, x118, x119, x120, x121, x122, x123, x124, x125, x126, x127, x128, x129, x130, x131, x132, x133, x134, x135, x136, x137, x138, x139, x140, x141, x142, x143, x144, x145, x146, x147, x148, x149, x150, x151, x152, x153, x154, x155, x156, x157, x158, x159, x160, x161, x162, x163, x164, x165, x166, x167, x168, x169, x170, x171, x172, x173, x174, x175, x176, x177, x178, x179, x180, x181, x182, x183, x184, x185, x186, x187, x188, x189, x190, x191, x192, x193, x194, x195, x196, x197, x198, x199, x200, x201, x202, x203, x204, x205, x206, x207, x208, x209, x210, x211, x212, x213, x214], []⟩ wB := by
  conv => arg 2; whnf
  have hSf : ∀ W1, Ext wB W1 → (fun w' : World => w'.cell? ⟨A, 0, none⟩ = some (.slice ao os.length co) ∧ w'.cell? ⟨A, 1, none⟩ = some (.slice ar rl.length cr) ∧ w'.cell? ⟨A, 2, none⟩ = some (.slice au us.length cu) ∧ w'.cell? ⟨A, 3, none⟩ = some (.slice ash sl.length csh) ∧ w'.cell? ⟨A, 4, none⟩ = some (.slice none 0 0) ∧ w'.cell? ⟨A, 5, none⟩ = some (.slice aa an.length ca)) W1 := fun W1 h => ⟨(hW.ext h).cell rfl, (hW.ext h).cell rfl, (hW.ext h).cell rfl, (hW.ext h).cell rfl, (hW.ext h).cell rfl, (hW.ext h).cell rfl⟩
  have hE0 : Ext wB wB.drew := (Ext.refl _).drawn
  have zd : wB.drew.heap.size = wB.heap.size := rfl
  have hS1 := hSf _ hE0
  have hm1 := run_makeMap_hint 109 9 9 Try.underlying109
  have hm2 := run_makeMap_hint 86 9 4 Try.underlying86
  have hcR := fun W1 (h : Ext wB W1) => cloneRoles (.slice ar rl.length cr) (rl.map Role.row) W1 (by have := (hRs.ext h).1; exact this) (by rw [List.length_map]; exact hnr) (by intro x hx; obtain ⟨q, _, rfl⟩ := List.mem_map.1 hx; rfl) (by
    intro x hx u hu
    obtain ⟨r, hr, rfl⟩ := List.mem_map.1 hx
    obtain ⟨mo, hmo⟩ := (hRs.2 r hr).2.2.2.2.shape
    simp only [Role.row, List.mem_cons, List.not_mem_nil, or_false] at hu
    rcases hu with rfl | rfl | rfl | rfl
    · rfl
    · rfl
    · rfl
    · rw [hmo]; rfl)
  have hcU := fun W1 (h : Ext wB W1) => cloneUsers (.slice au us.length cu) (us.map User.row) W1 (by have := (hUs.ext h).1; exact this) (by rw [List.length_map]; exact hnu) (by intro x hx; obtain ⟨q, _, rfl⟩ := List.mem_map.1 hx; rfl) (by
    intro x hx u hu
    obtain ⟨r, hr, rfl⟩ := List.mem_map.1 hx
    obtain ⟨a1, c1, hv1, _⟩ := (hUs.2 r hr).2.shape
    simp only [User.row, List.mem_cons, List.not_mem_nil, or_false] at hu
    rcases hu with rfl | rfl
    · rfl
    · rw [hv1]; rfl)
  have hcS := fun W1 (h : Ext wB W1) => cloneShs (.slice ash sl.length csh) (sl.map Share.row) W1 (by have := (hSs.ext h).1; exact this) (by rw [List.length_map]; exact hns) (by intro x hx; obtain ⟨q, _, rfl⟩ := List.mem_map.1 hx; rfl) (by
    intro x hx u hu
    obtain ⟨r, hr, rfl⟩ := List.mem_map.1 hx
    obtain ⟨a1, c1, hv1, _⟩ := (hSs.2 r hr).2.2.2.2.shape
    simp only [Share.row, List.mem_cons, List.not_mem_nil, or_false] at hu
    rcases hu with rfl | rfl | rfl | rfl | rfl
    · rfl
    · rfl
    · rfl
    · rw [hv1]; rfl
    · rfl)
  go_upto_region 19 with fail
  refine (wpIn_wide (n := 5)).1 ?_
  refine wpIn_region_S (fun w' => w'.cell? ⟨A, 0, none⟩ = some (.slice ao os.length co) ∧ w'.cell? ⟨A, 1, none⟩ = some (.slice ar rl.length cr) ∧ w'.cell? ⟨A, 2, none⟩ = some (.slice au us.length cu) ∧ w'.cell? ⟨A, 3, none⟩ = some (.slice ash sl.length csh) ∧ w'.cell? ⟨A, 4, none⟩ = some (.slice none 0 0) ∧ w'.cell? ⟨A, 5, none⟩ = some (.slice aa an.length ca)) 99 (by kernel_rfl) ?_
  change wpS _ _ _ _ _ _ _ 28 #[false, false, false, false, false, false, false, false, false, false, false, false, false, false, false, false, false, false, false, false, false, false, false, false, false, false, false, false] _ _
  refine wpS_take (i := 0) (v := .pointer (some ⟨T, 0, none⟩)) (fun _ => trivial) (by kernel_rfl) rfl (by kernel_rfl) (by kernel_rfl) (by kernel_rfl) (by kernel_rfl) (by kernel_rfl) (fun _ _ _ h => h) (Or.inl ⟨by kernel_rfl, ?_⟩) hS1 ?_
  · intro w' hSw; obtain ⟨s0, s1, s2, s3, s4, s5⟩ := hSw; go_simp
  simp only [Act.put, List.getElem_toArray, List.getElem_cons_zero, List.getElem_cons_succ, List.setIfInBounds_toArray, List.set_cons_zero, List.set_cons_succ]
  refine wpS_take (i := 1) (v := .pointer (some ⟨A, 0, none⟩)) (fun _ => trivial) (by kernel_rfl) rfl (by kernel_rfl) (by kernel_rfl) (by kernel_rfl) (by kernel_rfl) (by kernel_rfl) (fun _ _ _ h => h) (Or.inl ⟨by kernel_rfl, ?_⟩) hS1 ?_
  · intro w' hSw; obtain ⟨s0, s1, s2, s3, s4, s5⟩ := hSw; go_simp
  simp only [Act.put, List.getElem_toArray, List.getElem_cons_zero, List.getElem_cons_succ, List.setIfInBounds_toArray, List.set_cons_zero, List.set_cons_succ]
  refine wpS_take (i := 2) (v := .slice ao os.length co) (fun _ => trivial) (by kernel_rfl) rfl (by kernel_rfl) (by kernel_rfl) (by kernel_rfl) (by kernel_rfl) (by kernel_rfl) (fun _ _ _ h => h) (Or.inl ⟨by kernel_rfl, ?_⟩) hS1 ?_
  · intro w' hSw; obtain ⟨s0, s1, s2, s3, s4, s5⟩ := hSw; go_simp
  simp only [Act.put, List.getElem_toArray, List.getElem_cons_zero, List.getElem_cons_succ, List.setIfInBounds_toArray, List.set_cons_zero, List.set_cons_succ]
  refine wpS_take (i := 3) (v := .int .i64 (os.length : Int)) (fun _ => trivial) (by kernel_rfl) rfl (by kernel_rfl) (by kernel_rfl) (by kernel_rfl) (by kernel_rfl) (by kernel_rfl) (fun _ _ _ h => h) (Or.inl ⟨by kernel_rfl, ?_⟩) hS1 ?_
  · intro w' hSw; obtain ⟨s0, s1, s2, s3, s4, s5⟩ := hSw; go_simp
  simp only [Act.put, List.getElem_toArray, List.getElem_cons_zero, List.getElem_cons_succ, List.setIfInBounds_toArray, List.set_cons_zero, List.set_cons_succ]
  refine wpS_take (i := 5) (v := .pointer (some ⟨A, 1, none⟩)) (fun _ => trivial) (by kernel_rfl) rfl (by kernel_rfl) (by kernel_rfl) (by kernel_rfl) (by kernel_rfl) (by kernel_rfl) (fun _ _ _ h => h) (Or.inl ⟨by kernel_rfl, ?_⟩) hS1 ?_
  · intro w' hSw; obtain ⟨s0, s1, s2, s3, s4, s5⟩ := hSw; go_simp
  simp only [Act.put, List.getElem_toArray, List.getElem_cons_zero, List.getElem_cons_succ, List.setIfInBounds_toArray, List.set_cons_zero, List.set_cons_succ]
  refine wpS_take (i := 6) (v := .slice ar rl.length cr) (fun _ => trivial) (by kernel_rfl) rfl (by kernel_rfl) (by kernel_rfl) (by kernel_rfl) (by kernel_rfl) (by kernel_rfl) (fun _ _ _ h => h) (Or.inl ⟨by kernel_rfl, ?_⟩) hS1 ?_
  · intro w' hSw; obtain ⟨s0, s1, s2, s3, s4, s5⟩ := hSw; go_simp
  simp only [Act.put, List.getElem_toArray, List.getElem_cons_zero, List.getElem_cons_succ, List.setIfInBounds_toArray, List.set_cons_zero, List.set_cons_succ]
  refine wpS_take (i := 8) (v := .map (some bR)) (fun _ => trivial) (by kernel_rfl) rfl (by kernel_rfl) (by kernel_rfl) (by kernel_rfl) (by kernel_rfl) (by kernel_rfl) (fun _ _ _ h => h) (Or.inl ⟨by kernel_rfl, ?_⟩) hS1 ?_
  · intro w' hSw; obtain ⟨s0, s1, s2, s3, s4, s5⟩ := hSw; go_simp
  simp only [Act.put, List.getElem_toArray, List.getElem_cons_zero, List.getElem_cons_succ, List.setIfInBounds_toArray, List.set_cons_zero, List.set_cons_succ]
  refine wpS_take (i := 9) (v := .pointer (some ⟨A, 2, none⟩)) (fun _ => trivial) (by kernel_rfl) rfl (by kernel_rfl) (by kernel_rfl) (by kernel_rfl) (by kernel_rfl) (by kernel_rfl) (fun _ _ _ h => h) (Or.inl ⟨by kernel_rfl, ?_⟩) hS1 ?_
  · intro w' hSw; obtain ⟨s0, s1, s2, s3, s4, s5⟩ := hSw; go_simp
  simp only [Act.put, List.getElem_toArray, List.getElem_cons_zero, List.getElem_cons_succ, List.setIfInBounds_toArray, List.set_cons_zero, List.set_cons_succ]
  refine wpS_take (i := 10) (v := .slice au us.length cu) (fun _ => trivial) (by kernel_rfl) rfl (by kernel_rfl) (by kernel_rfl) (by kernel_rfl) (by kernel_rfl) (by kernel_rfl) (fun _ _ _ h => h) (Or.inl ⟨by kernel_rfl, ?_⟩) hS1 ?_
  · intro w' hSw; obtain ⟨s0, s1, s2, s3, s4, s5⟩ := hSw; go_simp
  simp only [Act.put, List.getElem_toArray, List.getElem_cons_zero, List.getElem_cons_succ, List.setIfInBounds_toArray, List.set_cons_zero, List.set_cons_succ]
  refine wpS_take (i := 12) (v := .map (some bUn)) (fun _ => trivial) (by kernel_rfl) rfl (by kernel_rfl) (by kernel_rfl) (by kernel_rfl) (by kernel_rfl) (by kernel_rfl) (fun _ _ _ h => h) (Or.inl ⟨by kernel_rfl, ?_⟩) hS1 ?_
  · intro w' hSw; obtain ⟨s0, s1, s2, s3, s4, s5⟩ := hSw; go_simp
  simp only [Act.put, List.getElem_toArray, List.getElem_cons_zero, List.getElem_cons_succ, List.setIfInBounds_toArray, List.set_cons_zero, List.set_cons_succ]
  refine wpS_take (i := 13) (v := .pointer (some ⟨A, 3, none⟩)) (fun _ => trivial) (by kernel_rfl) rfl (by kernel_rfl) (by kernel_rfl) (by kernel_rfl) (by kernel_rfl) (by kernel_rfl) (fun _ _ _ h => h) (Or.inl ⟨by kernel_rfl, ?_⟩) hS1 ?_
  · intro w' hSw; obtain ⟨s0, s1, s2, s3, s4, s5⟩ := hSw; go_simp
  simp only [Act.put, List.getElem_toArray, List.getElem_cons_zero, List.getElem_cons_succ, List.setIfInBounds_toArray, List.set_cons_zero, List.set_cons_succ]
  refine wpS_take (i := 14) (v := .slice ash sl.length csh) (fun _ => trivial) (by kernel_rfl) rfl (by kernel_rfl) (by kernel_rfl) (by kernel_rfl) (by kernel_rfl) (by kernel_rfl) (fun _ _ _ h => h) (Or.inl ⟨by kernel_rfl, ?_⟩) hS1 ?_
  · intro w' hSw; obtain ⟨s0, s1, s2, s3, s4, s5⟩ := hSw; go_simp
  simp only [Act.put, List.getElem_toArray, List.getElem_cons_zero, List.getElem_cons_succ, List.setIfInBounds_toArray, List.set_cons_zero, List.set_cons_succ]
  refine wpS_take (i := 16) (v := .pointer (some ⟨A, 4, none⟩)) (fun _ => trivial) (by kernel_rfl) rfl (by kernel_rfl) (by kernel_rfl) (by kernel_rfl) (by kernel_rfl) (by kernel_rfl) (fun _ _ _ h => h) (Or.inl ⟨by kernel_rfl, ?_⟩) hS1 ?_
  · intro w' hSw; obtain ⟨s0, s1, s2, s3, s4, s5⟩ := hSw; go_simp
  simp only [Act.put, List.getElem_toArray, List.getElem_cons_zero, List.getElem_cons_succ, List.setIfInBounds_toArray, List.set_cons_zero, List.set_cons_succ]
  refine wpS_take (i := 17) (v := .slice none 0 0) (fun _ => trivial) (by kernel_rfl) rfl (by kernel_rfl) (by kernel_rfl) (by kernel_rfl) (by kernel_rfl) (by kernel_rfl) (fun _ _ _ h => h) (Or.inl ⟨by kernel_rfl, ?_⟩) hS1 ?_
  · intro w' hSw; obtain ⟨s0, s1, s2, s3, s4, s5⟩ := hSw; go_simp
  simp only [Act.put, List.getElem_toArray, List.getElem_cons_zero, List.getElem_cons_succ, List.setIfInBounds_toArray, List.set_cons_zero, List.set_cons_succ]
  refine wpS_take (i := 19) (v := .map (some bC)) (fun _ => trivial) (by kernel_rfl) rfl (by kernel_rfl) (by kernel_rfl) (by kernel_rfl) (by kernel_rfl) (by kernel_rfl) (fun _ _ _ h => h) (Or.inl ⟨by kernel_rfl, ?_⟩) hS1 ?_
  · intro w' hSw; obtain ⟨s0, s1, s2, s3, s4, s5⟩ := hSw; go_simp
  simp only [Act.put, List.getElem_toArray, List.getElem_cons_zero, List.getElem_cons_succ, List.setIfInBounds_toArray, List.set_cons_zero, List.set_cons_succ]
  refine wpS_take (i := 20) (v := .pointer (some ⟨A, 5, none⟩)) (fun _ => trivial) (by kernel_rfl) rfl (by kernel_rfl) (by kernel_rfl) (by kernel_rfl) (by kernel_rfl) (by kernel_rfl) (fun _ _ _ h => h) (Or.inl ⟨by kernel_rfl, ?_⟩) hS1 ?_
  · intro w' hSw; obtain ⟨s0, s1, s2, s3, s4, s5⟩ := hSw; go_simp
  simp only [Act.put, List.getElem_toArray, List.getElem_cons_zero, List.getElem_cons_succ, List.setIfInBounds_toArray, List.set_cons_zero, List.set_cons_succ]
  refine wpS_take (i := 21) (v := .pointer (some ⟨A, 5, none⟩)) (fun _ => trivial) (by kernel_rfl) rfl (by kernel_rfl) (by kernel_rfl) (by kernel_rfl) (by kernel_rfl) (by kernel_rfl) (fun _ _ _ h => h) (Or.inl ⟨by kernel_rfl, ?_⟩) hS1 ?_
  · intro w' hSw; obtain ⟨s0, s1, s2, s3, s4, s5⟩ := hSw; go_simp
  simp only [Act.put, List.getElem_toArray, List.getElem_cons_zero, List.getElem_cons_succ, List.setIfInBounds_toArray, List.set_cons_zero, List.set_cons_succ]
  refine wpS_take (i := 22) (v := .slice aa an.length ca) (fun _ => trivial) (by kernel_rfl) rfl (by kernel_rfl) (by kernel_rfl) (by kernel_rfl) (by kernel_rfl) (by kernel_rfl) (fun _ _ _ h => h) (Or.inl ⟨by kernel_rfl, ?_⟩) hS1 ?_
  · intro w' hSw; obtain ⟨s0, s1, s2, s3, s4, s5⟩ := hSw; go_simp
  simp only [Act.put, List.getElem_toArray, List.getElem_cons_zero, List.getElem_cons_succ, List.setIfInBounds_toArray, List.set_cons_zero, List.set_cons_succ]
  refine wpS_take (i := 23) (v := .int .i64 (an.length : Int)) (fun _ => trivial) (by kernel_rfl) rfl (by kernel_rfl) (by kernel_rfl) (by kernel_rfl) (by kernel_rfl) (by kernel_rfl) (fun _ _ _ h => h) (Or.inl ⟨by kernel_rfl, ?_⟩) hS1 ?_
  · intro w' hSw; obtain ⟨s0, s1, s2, s3, s4, s5⟩ := hSw; go_simp
  simp only [Act.put, List.getElem_toArray, List.getElem_cons_zero, List.getElem_cons_succ, List.setIfInBounds_toArray, List.set_cons_zero, List.set_cons_succ]
  refine wpS_br (rs := [4, 7, 24]) (by kernel_rfl) (by simp) ?_
  intro i hi
  simp only [List.mem_cons, List.not_mem_nil, or_false] at hi
  rcases hi with rfl | rfl | rfl
  · refine ⟨_, rfl, by kernel_rfl, fun K hK => ?_⟩
    go_simp
    have x1 := Ext.alloc wB.drew (.map #[] 0)
    have z1 : (wB.drew.alloc (.map #[] 0)).heap.size = wB.drew.heap.size + 1 := by simp
    have e1 := hE0.trans x1
    have hO1 := SM.made wB.drew 9
    have z1b := e1.size
    refine hK _ _ (Or.inl (hSf _ e1)) ?_
    clear hK
    simp only [Act.put, List.getElem_toArray, List.getElem_cons_zero, List.getElem_cons_succ, List.setIfInBounds_toArray, List.set_cons_zero, List.set_cons_succ]
    refine wpS_br (rs := [7, 24]) (by kernel_rfl) (by simp) ?_
    intro i hi
    simp only [List.mem_cons, List.not_mem_nil, or_false] at hi
    rcases hi with rfl | rfl
    · refine ⟨_, rfl, by kernel_rfl, fun K hK => ?_⟩
      gi_wp2_with (refine ⟨trivial, ?_⟩; gi_at_call 37; refine (callsIn_wide.2 (hcR _ e1)).mono ?_; rintro e wc2 ⟨v2, rfl, hcd2, x2⟩)
      have hcd2' := hcd2
      obtain ⟨av2, cv2, hav2, _, _⟩ := hcd2'
      rw [List.length_map] at hav2
      subst hav2
      have e2 := e1.trans x2
      have z2 := x2.size
      have hO2 := hO1.ext x2
      have hR2 := hcd2.clAt
      have z2b := e2.size
      refine hK _ _ (Or.inl (hSf _ e2)) ?_
      clear hK
      simp only [Act.put, List.getElem_toArray, List.getElem_cons_zero, List.getElem_cons_succ, List.setIfInBounds_toArray, List.set_cons_zero, List.set_cons_succ]
      refine wpS_br (rs := [11, 24]) (by kernel_rfl) (by simp) ?_
      intro i hi
      simp only [List.mem_cons, List.not_mem_nil, or_false] at hi
      rcases hi with rfl | rfl
      · refine ⟨_, rfl, by kernel_rfl, fun K hK => ?_⟩
        gi_wp2_with (refine ⟨trivial, ?_⟩; gi_at_call 38; refine (callsIn_wide.2 (hcU _ e2)).mono ?_; rintro e wc3 ⟨v3, rfl, hcd3, x3⟩)
        have hcd3' := hcd3
        obtain ⟨av3, cv3, hav3, _, _⟩ := hcd3'
        rw [List.length_map] at hav3
        subst hav3
        have e3 := e2.trans x3
        have z3 := x3.size
        have hO3 := hO2.ext x3
        have hR3 := hR2.ext x3
        have hU3 := hcd3.clAt
        have z3b := e3.size
        refine hK _ _ (Or.inl (hSf _ e3)) ?_
        clear hK
        simp only [Act.put, List.getElem_toArray, List.getElem_cons_zero, List.getElem_cons_succ, List.setIfInBounds_toArray, List.set_cons_zero, List.set_cons_succ]
        refine wpS_br (rs := [15, 24]) (by kernel_rfl) (by simp) ?_
        intro i hi
        simp only [List.mem_cons, List.not_mem_nil, or_false] at hi
        rcases hi with rfl | rfl
        · refine ⟨_, rfl, by kernel_rfl, fun K hK => ?_⟩
          gi_wp2_with (refine ⟨trivial, ?_⟩; gi_at_call 39; refine (callsIn_wide.2 (hcS _ e3)).mono ?_; rintro e wc4 ⟨v4, rfl, hcd4, x4⟩)
          have hcd4' := hcd4
          obtain ⟨av4, cv4, hav4, _, _⟩ := hcd4'
          rw [List.length_map] at hav4
          subst hav4
          have e4 := e3.trans x4
          have z4 := x4.size
          have hO4 := hO3.ext x4
          have hR4 := hR3.ext x4
          have hU4 := hU3.ext x4
          have hS4 := hcd4.clAt
          have z4b := e4.size
          refine hK _ _ (Or.inl (hSf _ e4)) ?_
          clear hK
          simp only [Act.put, List.getElem_toArray, List.getElem_cons_zero, List.getElem_cons_succ, List.setIfInBounds_toArray, List.set_cons_zero, List.set_cons_succ]
          refine wpS_br (rs := [18, 24]) (by kernel_rfl) (by simp) ?_
          intro i hi
          simp only [List.mem_cons, List.not_mem_nil, or_false] at hi
          rcases hi with rfl | rfl
          · refine ⟨_, rfl, by kernel_rfl, fun K hK => ?_⟩
            gi_wp2_with (refine ⟨trivial, ?_⟩; gi_at_call 40; refine (callsIn_wide.2 (cloneRecs_any _)).mono ?_; rintro e wc5 ⟨rfl, rfl⟩)
            have e5 := e4
            refine hK _ _ (Or.inl (hSf _ e5)) ?_
            clear hK
            simp only [Act.put, List.getElem_toArray, List.getElem_cons_zero, List.getElem_cons_succ, List.setIfInBounds_toArray, List.set_cons_zero, List.set_cons_succ]
            refine wpS_one (i := 24) (by kernel_rfl) rfl (by kernel_rfl) (fun K hK => ?_)
            go_simp
            have x6 := Ext.alloc wc4 (.map #[] 0)
            have z6 : (wc4.alloc (.map #[] 0)).heap.size = wc4.heap.size + 1 := by simp
            have e6 := e5.trans x6
            have hO6 := hO4.ext x6
            have hR6 := hR4.ext x6
            have hU6 := hU4.ext x6
            have hS6 := hS4.ext x6
            have hA6 := SM.made wc4 4
            have z6b := e6.size
            refine hK _ _ (Or.inl (hSf _ e6)) ?_
            clear hK
            simp only [Act.put, List.getElem_toArray, List.getElem_cons_zero, List.getElem_cons_succ, List.setIfInBounds_toArray, List.set_cons_zero, List.set_cons_succ]
            refine wpS_take (i := 25) (v := .agg #[.pointer (some ⟨T, 0, none⟩), .map (some wB.drew.heap.size), .slice av2 rl.length cv2, .map (some bR), .slice av3 us.length cv3, (.map (some bUn)), .slice av4 sl.length cv4, .slice none 0 0, .slice none 0 0, .slice none 0 0, (.map (some bC)), .map (some wc4.heap.size)]) (fun _ => trivial) (by kernel_rfl) rfl (by kernel_rfl) (by kernel_rfl) (by kernel_rfl) (by kernel_rfl) (by kernel_rfl) (fun _ _ _ h => h) (Or.inl ⟨by kernel_rfl, ?_⟩) (hSf _ e6) ?_
            · intro w' hSw; obtain ⟨s0, s1, s2, s3, s4, s5⟩ := hSw; go_simp
            simp only [Act.put, List.getElem_toArray, List.getElem_cons_zero, List.getElem_cons_succ, List.setIfInBounds_toArray, List.set_cons_zero, List.set_cons_succ]
            refine wpS_one (i := 26) (by kernel_rfl) rfl (by kernel_rfl) (fun K hK => ?_)
            go_simp
            refine hK _ _ (Or.inl (hSf _ (e6.trans (Ext.alloc _ _)))) ?_
            clear hK
            simp only [Act.put, List.getElem_toArray, List.getElem_cons_zero, List.getElem_cons_succ, List.setIfInBounds_toArray, List.set_cons_zero, List.set_cons_succ]
            refine wpS_take (i := 27) (v := .pointer (some ⟨(wc4.alloc (.map #[] 0)).heap.size, 0, none⟩)) (fun _ => trivial) (by kernel_rfl) rfl (by kernel_rfl) (by kernel_rfl) (by kernel_rfl) (by kernel_rfl) (by kernel_rfl) (fun _ _ _ h => h) (Or.inl ⟨by kernel_rfl, ?_⟩) (hSf _ (e6.trans (Ext.alloc _ _))) ?_
            · intro w' hSw; obtain ⟨s0, s1, s2, s3, s4, s5⟩ := hSw; go_simp
            simp only [Act.put, List.getElem_toArray, List.getElem_cons_zero, List.getElem_cons_succ, List.setIfInBounds_toArray, List.set_cons_zero, List.set_cons_succ]
            refine wpS_done (by kernel_rfl) ?_ _
            repeat (first | (exact newModel_f os rl us sl an A T bR Nr ao ar au ash aa co cr cu csh ca (.map (some bUn)) (.map (some bC)) w wB hn hnr hnu hns hna hwB hT hmr hW hos hRs hUs hSs han hur hnp hdest _ _ (wB.drew.alloc (.map #[] 0)).heap.size wc2.heap.size wc2.heap.size wc3.heap.size wc3.heap.size wc4.heap.size _ _ _ _ e6 hO6 hA6 hR6 hU6 hS6 (by omega) (by omega) (by omega) (by omega) (by omega) (by omega) (by omega) (by omega) (by omega) (by omega)) | go_values | go_skip | go_guarded | go_step | go_upon | (simp only [Int.not_lt, Int.not_le] at *; go_simp))
          · refine ⟨_, rfl, by kernel_rfl, fun K hK => ?_⟩
            go_simp
            have x7 := Ext.alloc wc4 (.map #[] 0)
            have z7 : (wc4.alloc (.map #[] 0)).heap.size = wc4.heap.size + 1 := by simp
            have e7 := e4.trans x7
            have hO7 := hO4.ext x7
            have hR7 := hR4.ext x7
            have hU7 := hU4.ext x7
            have hS7 := hS4.ext x7
            have hA7 := SM.made wc4 4
            have z7b := e7.size
            refine hK _ _ (Or.inl (hSf _ e7)) ?_
            clear hK
            simp only [Act.put, List.getElem_toArray, List.getElem_cons_zero, List.getElem_cons_succ, List.setIfInBounds_toArray, List.set_cons_zero, List.set_cons_succ]
            refine wpS_one (i := 18) (by kernel_rfl) rfl (by kernel_rfl) (fun K hK => ?_)
            gi_wp2_with (refine ⟨trivial, ?_⟩; gi_at_call 40; refine (callsIn_wide.2 (cloneRecs_any _)).mono ?_; rintro e wc8 ⟨rfl, rfl⟩)
            have e8 := e7
            refine hK _ _ (Or.inl (hSf _ e8)) ?_
            clear hK
            simp only [Act.put, List.getElem_toArray, List.getElem_cons_zero, List.getElem_cons_succ, List.setIfInBounds_toArray, List.set_cons_zero, List.set_cons_succ]
            refine wpS_take (i := 25) (v := .agg #[.pointer (some ⟨T, 0, none⟩), .map (some wB.drew.heap.size), .slice av2 rl.length cv2, .map (some bR), .slice av3 us.length cv3, (.map (some bUn)), .slice av4 sl.length cv4, .slice none 0 0, .slice none 0 0, .slice none 0 0, (.map (some bC)), .map (some wc4.heap.size)]) (fun _ => trivial) (by kernel_rfl) rfl (by kernel_rfl) (by kernel_rfl) (by kernel_rfl) (by kernel_rfl) (by kernel_rfl) (fun _ _ _ h => h) (Or.inl ⟨by kernel_rfl, ?_⟩) (hSf _ e8) ?_
            · intro w' hSw; obtain ⟨s0, s1, s2, s3, s4, s5⟩ := hSw; go_simp
            simp only [Act.put, List.getElem_toArray, List.getElem_cons_zero, List.getElem_cons_succ, List.setIfInBounds_toArray, List.set_cons_zero, List.set_cons_succ]
            refine wpS_one (i := 26) (by kernel_rfl) rfl (by kernel_rfl) (fun K hK => ?_)
            go_simp
            refine hK _ _ (Or.inl (hSf _ (e8.trans (Ext.alloc _ _)))) ?_
            clear hK
            simp only [Act.put, List.getElem_toArray, List.getElem_cons_zero, List.getElem_cons_succ, List.setIfInBounds_toArray, List.set_cons_zero, List.set_cons_succ]
            refine wpS_take (i := 27) (v := .pointer (some ⟨(wc4.alloc (.map #[] 0)).heap.size, 0, none⟩)) (fun _ => trivial) (by kernel_rfl) rfl (by kernel_rfl) (by kernel_rfl) (by kernel_rfl) (by kernel_rfl) (by kernel_rfl) (fun _ _ _ h => h) (Or.inl ⟨by kernel_rfl, ?_⟩) (hSf _ (e8.trans (Ext.alloc _ _))) ?_
            · intro w' hSw; obtain ⟨s0, s1, s2, s3, s4, s5⟩ := hSw; go_simp
            simp only [Act.put, List.getElem_toArray, List.getElem_cons_zero, List.getElem_cons_succ, List.setIfInBounds_toArray, List.set_cons_zero, List.set_cons_succ]
            refine wpS_done (by kernel_rfl) ?_ _
            repeat (first | (exact newModel_f os rl us sl an A T bR Nr ao ar au ash aa co cr cu csh ca (.map (some bUn)) (.map (some bC)) w wB hn hnr hnu hns hna hwB hT hmr hW hos hRs hUs hSs han hur hnp hdest _ _ (wB.drew.alloc (.map #[] 0)).heap.size wc2.heap.size wc2.heap.size wc3.heap.size wc3.heap.size wc4.heap.size _ _ _ _ e8 hO7 hA7 hR7 hU7 hS7 (by omega) (by omega) (by omega) (by omega) (by omega) (by omega) (by omega) (by omega) (by omega) (by omega)) | go_values | go_skip | go_guarded | go_step | go_upon | (simp only [Int.not_lt, Int.not_le] at *; go_simp))
        · refine ⟨_, rfl, by kernel_rfl, fun K hK => ?_⟩
          go_simp
          have x9 := Ext.alloc wc3 (.map #[] 0)
          have z9 : (wc3.alloc (.map #[] 0)).heap.size = wc3.heap.size + 1 := by simp
          have e9 := e3.trans x9
          have hO9 := hO3.ext x9
          have hR9 := hR3.ext x9
          have hU9 := hU3.ext x9
          have hA9 := SM.made wc3 4
          have z9b := e9.size
          refine hK _ _ (Or.inl (hSf _ e9)) ?_
          clear hK
          simp only [Act.put, List.getElem_toArray, List.getElem_cons_zero, List.getElem_cons_succ, List.setIfInBounds_toArray, List.set_cons_zero, List.set_cons_succ]
          refine wpS_one (i := 15) (by kernel_rfl) rfl (by kernel_rfl) (fun K hK => ?_)
          gi_wp2_with (refine ⟨trivial, ?_⟩; gi_at_call 39; refine (callsIn_wide.2 (hcS _ e9)).mono ?_; rintro e wc10 ⟨v10, rfl, hcd10, x10⟩)
          have hcd10' := hcd10
          obtain ⟨av10, cv10, hav10, _, _⟩ := hcd10'
          rw [List.length_map] at hav10
          subst hav10
          have e10 := e9.trans x10
          have z10 := x10.size
          have hO10 := hO9.ext x10
          have hA10 := hA9.ext x10
          have hR10 := hR9.ext x10
          have hU10 := hU9.ext x10
          have hS10 := hcd10.clAt
          have z10b := e10.size
          refine hK _ _ (Or.inl (hSf _ e10)) ?_
          clear hK
          simp only [Act.put, List.getElem_toArray, List.getElem_cons_zero, List.getElem_cons_succ, List.setIfInBounds_toArray, List.set_cons_zero, List.set_cons_succ]
          refine wpS_one (i := 18) (by kernel_rfl) rfl (by kernel_rfl) (fun K hK => ?_)
          gi_wp2_with (refine ⟨trivial, ?_⟩; gi_at_call 40; refine (callsIn_wide.2 (cloneRecs_any _)).mono ?_; rintro e wc11 ⟨rfl, rfl⟩)
          have e11 := e10
          refine hK _ _ (Or.inl (hSf _ e11)) ?_
          clear hK
          simp only [Act.put, List.getElem_toArray, List.getElem_cons_zero, List.getElem_cons_succ, List.setIfInBounds_toArray, List.set_cons_zero, List.set_cons_succ]
          refine wpS_take (i := 25) (v := .agg #[.pointer (some ⟨T, 0, none⟩), .map (some wB.drew.heap.size), .slice av2 rl.length cv2, .map (some bR), .slice av3 us.length cv3, (.map (some bUn)), .slice av10 sl.length cv10, .slice none 0 0, .slice none 0 0, .slice none 0 0, (.map (some bC)), .map (some wc3.heap.size)]) (fun _ => trivial) (by kernel_rfl) rfl (by kernel_rfl) (by kernel_rfl) (by kernel_rfl) (by kernel_rfl) (by kernel_rfl) (fun _ _ _ h => h) (Or.inl ⟨by kernel_rfl, ?_⟩) (hSf _ e11) ?_
          · intro w' hSw; obtain ⟨s0, s1, s2, s3, s4, s5⟩ := hSw; go_simp
          simp only [Act.put, List.getElem_toArray, List.getElem_cons_zero, List.getElem_cons_succ, List.setIfInBounds_toArray, List.set_cons_zero, List.set_cons_succ]
          refine wpS_one (i := 26) (by kernel_rfl) rfl (by kernel_rfl) (fun K hK => ?_)
          go_simp
          refine hK _ _ (Or.inl (hSf _ (e11.trans (Ext.alloc _ _)))) ?_
          clear hK
          simp only [Act.put, List.getElem_toArray, List.getElem_cons_zero, List.getElem_cons_succ, List.setIfInBounds_toArray, List.set_cons_zero, List.set_cons_succ]
          refine wpS_take (i := 27) (v := .pointer (some ⟨wc10.heap.size, 0, none⟩)) (fun _ => trivial) (by kernel_rfl) rfl (by kernel_rfl) (by kernel_rfl) (by kernel_rfl) (by kernel_rfl) (by kernel_rfl) (fun _ _ _ h => h) (Or.inl ⟨by kernel_rfl, ?_⟩) (hSf _ (e11.trans (Ext.alloc _ _))) ?_
          · intro w' hSw; obtain ⟨s0, s1, s2, s3, s4, s5⟩ := hSw; go_simp
          simp only [Act.put, List.getElem_toArray, List.getElem_cons_zero, List.getElem_cons_succ, List.setIfInBounds_toArray, List.set_cons_zero, List.set_cons_succ]
          refine wpS_done (by kernel_rfl) ?_ _
          repeat (first | (exact newModel_f os rl us sl an A T bR Nr ao ar au ash aa co cr cu csh ca (.map (some bUn)) (.map (some bC)) w wB hn hnr hnu hns hna hwB hT hmr hW hos hRs hUs hSs han hur hnp hdest _ _ (wB.drew.alloc (.map #[] 0)).heap.size wc2.heap.size wc2.heap.size wc3.heap.size (wc3.alloc (.map #[] 0)).heap.size wc10.heap.size _ _ _ _ e11 hO10 hA10 hR10 hU10 hS10 (by omega) (by omega) (by omega) (by omega) (by omega) (by omega) (by omega) (by omega) (by omega) (by omega)) | go_values | go_skip | go_guarded | go_step | go_upon | (simp only [Int.not_lt, Int.not_le] at *; go_simp))
      · refine ⟨_, rfl, by kernel_rfl, fun K hK => ?_⟩
        go_simp
        have x12 := Ext.alloc wc2 (.map #[] 0)
        have z12 : (wc2.alloc (.map #[] 0)).heap.size = wc2.heap.size + 1 := by simp
        have e12 := e2.trans x12
        have hO12 := hO2.ext x12
        have hR12 := hR2.ext x12
        have hA12 := SM.made wc2 4
        have z12b := e12.size
        refine hK _ _ (Or.inl (hSf _ e12)) ?_
        clear hK
        simp only [Act.put, List.getElem_toArray, List.getElem_cons_zero, List.getElem_cons_succ, List.setIfInBounds_toArray, List.set_cons_zero, List.set_cons_succ]
        refine wpS_one (i := 11) (by kernel_rfl) rfl (by kernel_rfl) (fun K hK => ?_)
        gi_wp2_with (refine ⟨trivial, ?_⟩; gi_at_call 38; refine (callsIn_wide.2 (hcU _ e12)).mono ?_; rintro e wc13 ⟨v13, rfl, hcd13, x13⟩)
        have hcd13' := hcd13
        obtain ⟨av13, cv13, hav13, _, _⟩ := hcd13'
        rw [List.length_map] at hav13
        subst hav13
        have e13 := e12.trans x13
        have z13 := x13.size
        have hO13 := hO12.ext x13
        have hA13 := hA12.ext x13
        have hR13 := hR12.ext x13
        have hU13 := hcd13.clAt
        have z13b := e13.size
        refine hK _ _ (Or.inl (hSf _ e13)) ?_
        clear hK
        simp only [Act.put, List.getElem_toArray, List.getElem_cons_zero, List.getElem_cons_succ, List.setIfInBounds_toArray, List.set_cons_zero, List.set_cons_succ]
        refine wpS_one (i := 15) (by kernel_rfl) rfl (by kernel_rfl) (fun K hK => ?_)
        gi_wp2_with (refine ⟨trivial, ?_⟩; gi_at_call 39; refine (callsIn_wide.2 (hcS _ e13)).mono ?_; rintro e wc14 ⟨v14, rfl, hcd14, x14⟩)
        have hcd14' := hcd14
        obtain ⟨av14, cv14, hav14, _, _⟩ := hcd14'
        rw [List.length_map] at hav14
        subst hav14
        have e14 := e13.trans x14
        have z14 := x14.size
        have hO14 := hO13.ext x14
        have hA14 := hA13.ext x14
        have hR14 := hR13.ext x14
        have hU14 := hU13.ext x14
        have hS14 := hcd14.clAt
        have z14b := e14.size
        refine hK _ _ (Or.inl (hSf _ e14)) ?_
        clear hK
        simp only [Act.put, List.getElem_toArray, List.getElem_cons_zero, List.getElem_cons_succ, List.setIfInBounds_toArray, List.set_cons_zero, List.set_cons_succ]
        refine wpS_one (i := 18) (by kernel_rfl) rfl (by kernel_rfl) (fun K hK => ?_)
        gi_wp2_with (refine ⟨trivial, ?_⟩; gi_at_call 40; refine (callsIn_wide.2 (cloneRecs_any _)).mono ?_; rintro e wc15 ⟨rfl, rfl⟩)
        have e15 := e14
        refine hK _ _ (Or.inl (hSf _ e15)) ?_
        clear hK
        simp only [Act.put, List.getElem_toArray, List.getElem_cons_zero, List.getElem_cons_succ, List.setIfInBounds_toArray, List.set_cons_zero, List.set_cons_succ]
        refine wpS_take (i := 25) (v := .agg #[.pointer (some ⟨T, 0, none⟩), .map (some wB.drew.heap.size), .slice av2 rl.length cv2, .map (some bR), .slice av13 us.length cv13, (.map (some bUn)), .slice av14 sl.length cv14, .slice none 0 0, .slice none 0 0, .slice none 0 0, (.map (some bC)), .map (some wc2.heap.size)]) (fun _ => trivial) (by kernel_rfl) rfl (by kernel_rfl) (by kernel_rfl) (by kernel_rfl) (by kernel_rfl) (by kernel_rfl) (fun _ _ _ h => h) (Or.inl ⟨by kernel_rfl, ?_⟩) (hSf _ e15) ?_
        · intro w' hSw; obtain ⟨s0, s1, s2, s3, s4, s5⟩ := hSw; go_simp
        simp only [Act.put, List.getElem_toArray, List.getElem_cons_zero, List.getElem_cons_succ, List.setIfInBounds_toArray, List.set_cons_zero, List.set_cons_succ]
        refine wpS_one (i := 26) (by kernel_rfl) rfl (by kernel_rfl) (fun K hK => ?_)
        go_simp
        refine hK _ _ (Or.inl (hSf _ (e15.trans (Ext.alloc _ _)))) ?_
        clear hK
        simp only [Act.put, List.getElem_toArray, List.getElem_cons_zero, List.getElem_cons_succ, List.setIfInBounds_toArray, List.set_cons_zero, List.set_cons_succ]
        refine wpS_take (i := 27) (v := .pointer (some ⟨wc14.heap.size, 0, none⟩)) (fun _ => trivial) (by kernel_rfl) rfl (by kernel_rfl) (by kernel_rfl) (by kernel_rfl) (by kernel_rfl) (by kernel_rfl) (fun _ _ _ h => h) (Or.inl ⟨by kernel_rfl, ?_⟩) (hSf _ (e15.trans (Ext.alloc _ _))) ?_
        · intro w' hSw; obtain ⟨s0, s1, s2, s3, s4, s5⟩ := hSw; go_simp
        simp only [Act.put, List.getElem_toArray, List.getElem_cons_zero, List.getElem_cons_succ, List.setIfInBounds_toArray, List.set_cons_zero, List.set_cons_succ]
        refine wpS_done (by kernel_rfl) ?_ _
        repeat (first | (exact newModel_f os rl us sl an A T bR Nr ao ar au ash aa co cr cu csh ca (.map (some bUn)) (.map (some bC)) w wB hn hnr hnu hns hna hwB hT hmr hW hos hRs hUs hSs han hur hnp hdest _ _ (wB.drew.alloc (.map #[] 0)).heap.size wc2.heap.size (wc2.alloc (.map #[] 0)).heap.size wc13.heap.size wc13.heap.size wc14.heap.size _ _ _ _ e15 hO14 hA14 hR14 hU14 hS14 (by omega) (by omega) (by omega) (by omega) (by omega) (by omega) (by omega) (by omega) (by omega) (by omega)) | go_values | go_skip | go_guarded | go_step | go_upon | (simp only [Int.not_lt, Int.not_le] at *; go_simp))
    · refine ⟨_, rfl, by kernel_rfl, fun K hK => ?_⟩
      go_simp
      have x16 := Ext.alloc (wB.drew.alloc (.map #[] 0)) (.map #[] 0)
      have z16 : ((wB.drew.alloc (.map #[] 0)).alloc (.map #[] 0)).heap.size = (wB.drew.alloc (.map #[] 0)).heap.size + 1 := by simp
      have e16 := e1.trans x16
      have hO16 := hO1.ext x16
      have hA16 : SM ((wB.drew.alloc (.map #[] 0)).alloc (.map #[] 0)) 4 (wB.drew.heap.size + 1) 0 (fun _ => none) := by have h := SM.made (wB.drew.alloc (.map #[] 0)) 4; rw [show (wB.drew.alloc (.map #[] 0)).heap.size = (wB.drew.heap.size + 1) from by simp] at h; exact h
      have z16b := e16.size
      refine hK _ _ (Or.inl (hSf _ e16)) ?_
      clear hK
      simp only [Act.put, List.getElem_toArray, List.getElem_cons_zero, List.getElem_cons_succ, List.setIfInBounds_toArray, List.set_cons_zero, List.set_cons_succ]
      refine wpS_one (i := 7) (by kernel_rfl) rfl (by kernel_rfl) (fun K hK => ?_)
      gi_wp2_with (refine ⟨trivial, ?_⟩; gi_at_call 37; refine (callsIn_wide.2 (hcR _ e16)).mono ?_; rintro e wc17 ⟨v17, rfl, hcd17, x17⟩)
      have hcd17' := hcd17
      obtain ⟨av17, cv17, hav17, _, _⟩ := hcd17'
      rw [List.length_map] at hav17
      subst hav17
      have e17 := e16.trans x17
      have z17 := x17.size
      have hO17 := hO16.ext x17
      have hA17 := hA16.ext x17
      have hR17 := hcd17.clAt
      have z17b := e17.size
      refine hK _ _ (Or.inl (hSf _ e17)) ?_
      clear hK
      simp only [Act.put, List.getElem_toArray, List.getElem_cons_zero, List.getElem_cons_succ, List.setIfInBounds_toArray, List.set_cons_zero, List.set_cons_succ]
      refine wpS_one (i := 11) (by kernel_rfl) rfl (by kernel_rfl) (fun K hK => ?_)
      gi_wp2_with (refine ⟨trivial, ?_⟩; gi_at_call 38; refine (callsIn_wide.2 (hcU _ e17)).mono ?_; rintro e wc18 ⟨v18, rfl, hcd18, x18⟩)
      have hcd18' := hcd18
      obtain ⟨av18, cv18, hav18, _, _⟩ := hcd18'
      rw [List.length_map] at hav18
      subst hav18
      have e18 := e17.trans x18
      have z18 := x18.size
      have hO18 := hO17.ext x18
      have hA18 := hA17.ext x18
      have hR18 := hR17.ext x18
      have hU18 := hcd18.clAt
      have z18b := e18.size
      refine hK _ _ (Or.inl (hSf _ e18)) ?_
      clear hK
      simp only [Act.put, List.getElem_toArray, List.getElem_cons_zero, List.getElem_cons_succ, List.setIfInBounds_toArray, List.set_cons_zero, List.set_cons_succ]
      refine wpS_one (i := 15) (by kernel_rfl) rfl (by kernel_rfl) (fun K hK => ?_)
      gi_wp2_with (refine ⟨trivial, ?_⟩; gi_at_call 39; refine (callsIn_wide.2 (hcS _ e18)).mono ?_; rintro e wc19 ⟨v19, rfl, hcd19, x19⟩)
      have hcd19' := hcd19
      obtain ⟨av19, cv19, hav19, _, _⟩ := hcd19'
      rw [List.length_map] at hav19
      subst hav19
      have e19 := e18.trans x19
      have z19 := x19.size
      have hO19 := hO18.ext x19
      have hA19 := hA18.ext x19
      have hR19 := hR18.ext x19
      have hU19 := hU18.ext x19
      have hS19 := hcd19.clAt
      have z19b := e19.size
      refine hK _ _ (Or.inl (hSf _ e19)) ?_
      clear hK
      simp only [Act.put, List.getElem_toArray, List.getElem_cons_zero, List.getElem_cons_succ, List.setIfInBounds_toArray, List.set_cons_zero, List.set_cons_succ]
      refine wpS_one (i := 18) (by kernel_rfl) rfl (by kernel_rfl) (fun K hK => ?_)
      gi_wp2_with (refine ⟨trivial, ?_⟩; gi_at_call 40; refine (callsIn_wide.2 (cloneRecs_any _)).mono ?_; rintro e wc20 ⟨rfl, rfl⟩)
      have e20 := e19
      refine hK _ _ (Or.inl (hSf _ e20)) ?_
      clear hK
      simp only [Act.put, List.getElem_toArray, List.getElem_cons_zero, List.getElem_cons_succ, List.setIfInBounds_toArray, List.set_cons_zero, List.set_cons_succ]
      refine wpS_take (i := 25) (v := .agg #[.pointer (some ⟨T, 0, none⟩), .map (some wB.drew.heap.size), .slice av17 rl.length cv17, .map (some bR), .slice av18 us.length cv18, (.map (some bUn)), .slice av19 sl.length cv19, .slice none 0 0, .slice none 0 0, .slice none 0 0, (.map (some bC)), .map (some (wB.drew.heap.size + 1))]) (fun _ => trivial) (by kernel_rfl) rfl (by kernel_rfl) (by kernel_rfl) (by kernel_rfl) (by kernel_rfl) (by kernel_rfl) (fun _ _ _ h => h) (Or.inl ⟨by kernel_rfl, ?_⟩) (hSf _ e20) ?_
      · intro w' hSw; obtain ⟨s0, s1, s2, s3, s4, s5⟩ := hSw; go_simp
      simp only [Act.put, List.getElem_toArray, List.getElem_cons_zero, List.getElem_cons_succ, List.setIfInBounds_toArray, List.set_cons_zero, List.set_cons_succ]
      refine wpS_one (i := 26) (by kernel_rfl) rfl (by kernel_rfl) (fun K hK => ?_)
      go_simp
      refine hK _ _ (Or.inl (hSf _ (e20.trans (Ext.alloc _ _)))) ?_
      clear hK
      simp only [Act.put, List.getElem_toArray, List.getElem_cons_zero, List.getElem_cons_succ, List.setIfInBounds_toArray, List.set_cons_zero, List.set_cons_succ]
      refine wpS_take (i := 27) (v := .pointer (some ⟨wc19.heap.size, 0, none⟩)) (fun _ => trivial) (by kernel_rfl) rfl (by kernel_rfl) (by kernel_rfl) (by kernel_rfl) (by kernel_rfl) (by kernel_rfl) (fun _ _ _ h => h) (Or.inl ⟨by kernel_rfl, ?_⟩) (hSf _ (e20.trans (Ext.alloc _ _))) ?_
      · intro w' hSw; obtain ⟨s0, s1, s2, s3, s4, s5⟩ := hSw; go_simp
      simp only [Act.put, List.getElem_toArray, List.getElem_cons_zero, List.getElem_cons_succ, List.setIfInBounds_toArray, List.set_cons_zero, List.set_cons_succ]
      refine wpS_done (by kernel_rfl) ?_ _
      repeat (first | (exact newModel_f os rl us sl an A T bR Nr ao ar au ash aa co cr cu csh ca (.map (some bUn)) (.map (some bC)) w wB hn hnr hnu hns hna hwB hT hmr hW hos hRs hUs hSs han hur hnp hdest _ _ ((wB.drew.alloc (.map #[] 0)).alloc (.map #[] 0)).heap.size wc17.heap.size wc17.heap.size wc18.heap.size wc18.heap.size wc19.heap.size _ _ _ _ e20 hO19 hA19 hR19 hU19 hS19 (by omega) (by omega) (by omega) (by omega) (by omega) (by omega) (by omega) (by omega) (by omega) (by omega)) | go_values | go_skip | go_guarded | go_step | go_upon | (simp only [Int.not_lt, Int.not_le] at *; go_simp))
  · refine ⟨_, rfl, by kernel_rfl, fun K hK => ?_⟩
    gi_wp2_with (refine ⟨trivial, ?_⟩; gi_at_call 37; refine (callsIn_wide.2 (hcR _ hE0)).mono ?_; rintro e wc21 ⟨v21, rfl, hcd21, x21⟩)
    have hcd21' := hcd21
    obtain ⟨av21, cv21, hav21, _, _⟩ := hcd21'
    rw [List.length_map] at hav21
    subst hav21
    have e21 := hE0.trans x21
    have z21 := x21.size
    have hR21 := hcd21.clAt
    have z21b := e21.size
    refine hK _ _ (Or.inl (hSf _ e21)) ?_
    clear hK
    simp only [Act.put, List.getElem_toArray, List.getElem_cons_zero, List.getElem_cons_succ, List.setIfInBounds_toArray, List.set_cons_zero, List.set_cons_succ]
    refine wpS_br (rs := [4, 11, 24]) (by kernel_rfl) (by simp) ?_
    intro i hi
    simp only [List.mem_cons, List.not_mem_nil, or_false] at hi
    rcases hi with rfl | rfl | rfl
    · refine ⟨_, rfl, by kernel_rfl, fun K hK => ?_⟩
      go_simp
      have x22 := Ext.alloc wc21 (.map #[] 0)
      have z22 : (wc21.alloc (.map #[] 0)).heap.size = wc21.heap.size + 1 := by simp
      have e22 := e21.trans x22
      have hR22 := hR21.ext x22
      have hO22 := SM.made wc21 9
      have z22b := e22.size
      refine hK _ _ (Or.inl (hSf _ e22)) ?_
      clear hK
      simp only [Act.put, List.getElem_toArray, List.getElem_cons_zero, List.getElem_cons_succ, List.setIfInBounds_toArray, List.set_cons_zero, List.set_cons_succ]
      refine wpS_br (rs := [11, 24]) (by kernel_rfl) (by simp) ?_
      intro i hi
      simp only [List.mem_cons, List.not_mem_nil, or_false] at hi
      rcases hi with rfl | rfl
      · refine ⟨_, rfl, by kernel_rfl, fun K hK => ?_⟩
        gi_wp2_with (refine ⟨trivial, ?_⟩; gi_at_call 38; refine (callsIn_wide.2 (hcU _ e22)).mono ?_; rintro e wc23 ⟨v23, rfl, hcd23, x23⟩)
        have hcd23' := hcd23
        obtain ⟨av23, cv23, hav23, _, _⟩ := hcd23'
        rw [List.length_map] at hav23
        subst hav23
        have e23 := e22.trans x23
        have z23 := x23.size
        have hO23 := hO22.ext x23
        have hR23 := hR22.ext x23
        have hU23 := hcd23.clAt
        have z23b := e23.size
        refine hK _ _ (Or.inl (hSf _ e23)) ?_
        clear hK
        simp only [Act.put, List.getElem_toArray, List.getElem_cons_zero, List.getElem_cons_succ, List.setIfInBounds_toArray, List.set_cons_zero, List.set_cons_succ]
        refine wpS_br (rs := [15, 24]) (by kernel_rfl) (by simp) ?_
        intro i hi
        simp only [List.mem_cons, List.not_mem_nil, or_false] at hi
        rcases hi with rfl | rfl
        · refine ⟨_, rfl, by kernel_rfl, fun K hK => ?_⟩
          gi_wp2_with (refine ⟨trivial, ?_⟩; gi_at_call 39; refine (callsIn_wide.2 (hcS _ e23)).mono ?_; rintro e wc24 ⟨v24, rfl, hcd24, x24⟩)
          have hcd24' := hcd24
          obtain ⟨av24, cv24, hav24, _, _⟩ := hcd24'
          rw [List.length_map] at hav24
          subst hav24
          have e24 := e23.trans x24
          have z24 := x24.size
          have hO24 := hO23.ext x24
          have hR24 := hR23.ext x24
          have hU24 := hU23.ext x24
          have hS24 := hcd24.clAt
          have z24b := e24.size
          refine hK _ _ (Or.inl (hSf _ e24)) ?_
          clear hK
          simp only [Act.put, List.getElem_toArray, List.getElem_cons_zero, List.getElem_cons_succ, List.setIfInBounds_toArray, List.set_cons_zero, List.set_cons_succ]
          refine wpS_br (rs := [18, 24]) (by kernel_rfl) (by simp) ?_
          intro i hi
          simp only [List.mem_cons, List.not_mem_nil, or_false] at hi
          rcases hi with rfl | rfl
          · refine ⟨_, rfl, by kernel_rfl, fun K hK => ?_⟩
            gi_wp2_with (refine ⟨trivial, ?_⟩; gi_at_call 40; refine (callsIn_wide.2 (cloneRecs_any _)).mono ?_; rintro e wc25 ⟨rfl, rfl⟩)
            have e25 := e24
            refine hK _ _ (Or.inl (hSf _ e25)) ?_
            clear hK
            simp only [Act.put, List.getElem_toArray, List.getElem_cons_zero, List.getElem_cons_succ, List.setIfInBounds_toArray, List.set_cons_zero, List.set_cons_succ]
            refine wpS_one (i := 24) (by kernel_rfl) rfl (by kernel_rfl) (fun K hK => ?_)
            go_simp
            have x26 := Ext.alloc wc24 (.map #[] 0)
            have z26 : (wc24.alloc (.map #[] 0)).heap.size = wc24.heap.size + 1 := by simp
            have e26 := e25.trans x26
            have hO26 := hO24.ext x26
            have hR26 := hR24.ext x26
            have hU26 := hU24.ext x26
            have hS26 := hS24.ext x26
            have hA26 := SM.made wc24 4
            have z26b := e26.size
            refine hK _ _ (Or.inl (hSf _ e26)) ?_
            clear hK
            simp only [Act.put, List.getElem_toArray, List.getElem_cons_zero, List.getElem_cons_succ, List.setIfInBounds_toArray, List.set_cons_zero, List.set_cons_succ]
            refine wpS_take (i := 25) (v := .agg #[.pointer (some ⟨T, 0, none⟩), .map (some wc21.heap.size), .slice av21 rl.length cv21, .map (some bR), .slice av23 us.length cv23, (.map (some bUn)), .slice av24 sl.length cv24, .slice none 0 0, .slice none 0 0, .slice none 0 0, (.map (some bC)), .map (some wc24.heap.size)]) (fun _ => trivial) (by kernel_rfl) rfl (by kernel_rfl) (by kernel_rfl) (by kernel_rfl) (by kernel_rfl) (by kernel_rfl) (fun _ _ _ h => h) (Or.inl ⟨by kernel_rfl, ?_⟩) (hSf _ e26) ?_
            · intro w' hSw; obtain ⟨s0, s1, s2, s3, s4, s5⟩ := hSw; go_simp
            simp only [Act.put, List.getElem_toArray, List.getElem_cons_zero, List.getElem_cons_succ, List.setIfInBounds_toArray, List.set_cons_zero, List.set_cons_succ]
            refine wpS_one (i := 26) (by kernel_rfl) rfl (by kernel_rfl) (fun K hK => ?_)
            go_simp
            refine hK _ _ (Or.inl (hSf _ (e26.trans (Ext.alloc _ _)))) ?_
            clear hK
            simp only [Act.put, List.getElem_toArray, List.getElem_cons_zero, List.getElem_cons_succ, List.setIfInBounds_toArray, List.set_cons_zero, List.set_cons_succ]
            refine wpS_take (i := 27) (v := .pointer (some ⟨(wc24.alloc (.map #[] 0)).heap.size, 0, none⟩)) (fun _ => trivial) (by kernel_rfl) rfl (by kernel_rfl) (by kernel_rfl) (by kernel_rfl) (by kernel_rfl) (by kernel_rfl) (fun _ _ _ h => h) (Or.inl ⟨by kernel_rfl, ?_⟩) (hSf _ (e26.trans (Ext.alloc _ _))) ?_
            · intro w' hSw; obtain ⟨s0, s1, s2, s3, s4, s5⟩ := hSw; go_simp
            simp only [Act.put, List.getElem_toArray, List.getElem_cons_zero, List.getElem_cons_succ, List.setIfInBounds_toArray, List.set_cons_zero, List.set_cons_succ]
            refine wpS_done (by kernel_rfl) ?_ _
            repeat (first | (exact newModel_f os rl us sl an A T bR Nr ao ar au ash aa co cr cu csh ca (.map (some bUn)) (.map (some bC)) w wB hn hnr hnu hns hna hwB hT hmr hW hos hRs hUs hSs han hur hnp hdest _ _ wB.drew.heap.size wc21.heap.size (wc21.alloc (.map #[] 0)).heap.size wc23.heap.size wc23.heap.size wc24.heap.size _ _ _ _ e26 hO26 hA26 hR26 hU26 hS26 (by omega) (by omega) (by omega) (by omega) (by omega) (by omega) (by omega) (by omega) (by omega) (by omega)) | go_values | go_skip | go_guarded | go_step | go_upon | (simp only [Int.not_lt, Int.not_le] at *; go_simp))
          · refine ⟨_, rfl, by kernel_rfl, fun K hK => ?_⟩
            go_simp
            have x27 := Ext.alloc wc24 (.map #[] 0)
            have z27 : (wc24.alloc (.map #[] 0)).heap.size = wc24.heap.size + 1 := by simp
            have e27 := e24.trans x27
            have hO27 := hO24.ext x27
            have hR27 := hR24.ext x27
            have hU27 := hU24.ext x27
            have hS27 := hS24.ext x27
            have hA27 := SM.made wc24 4
            have z27b := e27.size
            refine hK _ _ (Or.inl (hSf _ e27)) ?_
            clear hK
            simp only [Act.put, List.getElem_toArray, List.getElem_cons_zero, List.getElem_cons_succ, List.setIfInBounds_toArray, List.set_cons_zero, List.set_cons_succ]
            refine wpS_one (i := 18) (by kernel_rfl) rfl (by kernel_rfl) (fun K hK => ?_)
            gi_wp2_with (refine ⟨trivial, ?_⟩; gi_at_call 40; refine (callsIn_wide.2 (cloneRecs_any _)).mono ?_; rintro e wc28 ⟨rfl, rfl⟩)
            have e28 := e27
            refine hK _ _ (Or.inl (hSf _ e28)) ?_
            clear hK
            simp only [Act.put, List.getElem_toArray, List.getElem_cons_zero, List.getElem_cons_succ, List.setIfInBounds_toArray, List.set_cons_zero, List.set_cons_succ]
            refine wpS_take (i := 25) (v := .agg #[.pointer (some ⟨T, 0, none⟩), .map (some wc21.heap.size), .slice av21 rl.length cv21, .map (some bR), .slice av23 us.length cv23, (.map (some bUn)), .slice av24 sl.length cv24, .slice none 0 0, .slice none 0 0, .slice none 0 0, (.map (some bC)), .map (some wc24.heap.size)]) (fun _ => trivial) (by kernel_rfl) rfl (by kernel_rfl) (by kernel_rfl) (by kernel_rfl) (by kernel_rfl) (by kernel_rfl) (fun _ _ _ h => h) (Or.inl ⟨by kernel_rfl, ?_⟩) (hSf _ e28) ?_
            · intro w' hSw; obtain ⟨s0, s1, s2, s3, s4, s5⟩ := hSw; go_simp
            simp only [Act.put, List.getElem_toArray, List.getElem_cons_zero, List.getElem_cons_succ, List.setIfInBounds_toArray, List.set_cons_zero, List.set_cons_succ]
            refine wpS_one (i := 26) (by kernel_rfl) rfl (by kernel_rfl) (fun K hK => ?_)
            go_simp
            refine hK _ _ (Or.inl (hSf _ (e28.trans (Ext.alloc _ _)))) ?_
            clear hK
            simp only [Act.put, List.getElem_toArray, List.getElem_cons_zero, List.getElem_cons_succ, List.setIfInBounds_toArray, List.set_cons_zero, List.set_cons_succ]
            refine wpS_take (i := 27) (v := .pointer (some ⟨(wc24.alloc (.map #[] 0)).heap.size, 0, none⟩)) (fun _ => trivial) (by kernel_rfl) rfl (by kernel_rfl) (by kernel_rfl) (by kernel_rfl) (by kernel_rfl) (by kernel_rfl) (fun _ _ _ h => h) (Or.inl ⟨by kernel_rfl, ?_⟩) (hSf _ (e28.trans (Ext.alloc _ _))) ?_
            · intro w' hSw; obtain ⟨s0, s1, s2, s3, s4, s5⟩ := hSw; go_simp
            simp only [Act.put, List.getElem_toArray, List.getElem_cons_zero, List.getElem_cons_succ, List.setIfInBounds_toArray, List.set_cons_zero, List.set_cons_succ]
            refine wpS_done (by kernel_rfl) ?_ _
            repeat (first | (exact newModel_f os rl us sl an A T bR Nr ao ar au ash aa co cr cu csh ca (.map (some bUn)) (.map (some bC)) w wB hn hnr hnu hns hna hwB hT hmr hW hos hRs hUs hSs han hur hnp hdest _ _ wB.drew.heap.size wc21.heap.size (wc21.alloc (.map #[] 0)).heap.size wc23.heap.size wc23.heap.size wc24.heap.size _ _ _ _ e28 hO27 hA27 hR27 hU27 hS27 (by omega) (by omega) (by omega) (by omega) (by omega) (by omega) (by omega) (by omega) (by omega) (by omega)) | go_values | go_skip | go_guarded | go_step | go_upon | (simp only [Int.not_lt, Int.not_le] at *; go_simp))
        · refine ⟨_, rfl, by kernel_rfl, fun K hK => ?_⟩
          go_simp
          have x29 := Ext.alloc wc23 (.map #[] 0)
          have z29 : (wc23.alloc (.map #[] 0)).heap.size = wc23.heap.size + 1 := by simp
          have e29 := e23.trans x29
          have hO29 := hO23.ext x29
          have hR29 := hR23.ext x29
          have hU29 := hU23.ext x29
          have hA29 := SM.made wc23 4
          have z29b := e29.size
          refine hK _ _ (Or.inl (hSf _ e29)) ?_
          clear hK
          simp only [Act.put, List.getElem_toArray, List.getElem_cons_zero, List.getElem_cons_succ, List.setIfInBounds_toArray, List.set_cons_zero, List.set_cons_succ]
          refine wpS_one (i := 15) (by kernel_rfl) rfl (by kernel_rfl) (fun K hK => ?_)
          gi_wp2_with (refine ⟨trivial, ?_⟩; gi_at_call 39; refine (callsIn_wide.2 (hcS _ e29)).mono ?_; rintro e wc30 ⟨v30, rfl, hcd30, x30⟩)
          have hcd30' := hcd30
          obtain ⟨av30, cv30, hav30, _, _⟩ := hcd30'
          rw [List.length_map] at hav30
          subst hav30
          have e30 := e29.trans x30
          have z30 := x30.size
          have hO30 := hO29.ext x30
          have hA30 := hA29.ext x30
          have hR30 := hR29.ext x30
          have hU30 := hU29.ext x30
          have hS30 := hcd30.clAt
          have z30b := e30.size
          refine hK _ _ (Or.inl (hSf _ e30)) ?_
          clear hK
          simp only [Act.put, List.getElem_toArray, List.getElem_cons_zero, List.getElem_cons_succ, List.setIfInBounds_toArray, List.set_cons_zero, List.set_cons_succ]
          refine wpS_one (i := 18) (by kernel_rfl) rfl (by kernel_rfl) (fun K hK => ?_)
          gi_wp2_with (refine ⟨trivial, ?_⟩; gi_at_call 40; refine (callsIn_wide.2 (cloneRecs_any _)).mono ?_; rintro e wc31 ⟨rfl, rfl⟩)
          have e31 := e30
          refine hK _ _ (Or.inl (hSf _ e31)) ?_
          clear hK
          simp only [Act.put, List.getElem_toArray, List.getElem_cons_zero, List.getElem_cons_succ, List.setIfInBounds_toArray, List.set_cons_zero, List.set_cons_succ]
          refine wpS_take (i := 25) (v := .agg #[.pointer (some ⟨T, 0, none⟩), .map (some wc21.heap.size), .slice av21 rl.length cv21, .map (some bR), .slice av23 us.length cv23, (.map (some bUn)), .slice av30 sl.length cv30, .slice none 0 0, .slice none 0 0, .slice none 0 0, (.map (some bC)), .map (some wc23.heap.size)]) (fun _ => trivial) (by kernel_rfl) rfl (by kernel_rfl) (by kernel_rfl) (by kernel_rfl) (by kernel_rfl) (by kernel_rfl) (fun _ _ _ h => h) (Or.inl ⟨by kernel_rfl, ?_⟩) (hSf _ e31) ?_
          · intro w' hSw; obtain ⟨s0, s1, s2, s3, s4, s5⟩ := hSw; go_simp
          simp only [Act.put, List.getElem_toArray, List.getElem_cons_zero, List.getElem_cons_succ, List.setIfInBounds_toArray, List.set_cons_zero, List.set_cons_succ]
          refine wpS_one (i := 26) (by kernel_rfl) rfl (by kernel_rfl) (fun K hK => ?_)
          go_simp
          refine hK _ _ (Or.inl (hSf _ (e31.trans (Ext.alloc _ _)))) ?_
          clear hK
          simp only [Act.put, List.getElem_toArray, List.getElem_cons_zero, List.getElem_cons_succ, List.setIfInBounds_toArray, List.set_cons_zero, List.set_cons_succ]
          refine wpS_take (i := 27) (v := .pointer (some ⟨wc30.heap.size, 0, none⟩)) (fun _ => trivial) (by kernel_rfl) rfl (by kernel_rfl) (by kernel_rfl) (by kernel_rfl) (by kernel_rfl) (by kernel_rfl) (fun _ _ _ h => h) (Or.inl ⟨by kernel_rfl, ?_⟩) (hSf _ (e31.trans (Ext.alloc _ _))) ?_
          · intro w' hSw; obtain ⟨s0, s1, s2, s3, s4, s5⟩ := hSw; go_simp
          simp only [Act.put, List.getElem_toArray, List.getElem_cons_zero, List.getElem_cons_succ, List.setIfInBounds_toArray, List.set_cons_zero, List.set_cons_succ]
          refine wpS_done (by kernel_rfl) ?_ _
          repeat (first | (exact newModel_f os rl us sl an A T bR Nr ao ar au ash aa co cr cu csh ca (.map (some bUn)) (.map (some bC)) w wB hn hnr hnu hns hna hwB hT hmr hW hos hRs hUs hSs han hur hnp hdest _ _ wB.drew.heap.size wc21.heap.size (wc21.alloc (.map #[] 0)).heap.size wc23.heap.size (wc23.alloc (.map #[] 0)).heap.size wc30.heap.size _ _ _ _ e31 hO30 hA30 hR30 hU30 hS30 (by omega) (by omega) (by omega) (by omega) (by omega) (by omega) (by omega) (by omega) (by omega) (by omega)) | go_values | go_skip | go_guarded | go_step | go_upon | (simp only [Int.not_lt, Int.not_le] at *; go_simp))
      · refine ⟨_, rfl, by kernel_rfl, fun K hK => ?_⟩
        go_simp
        have x32 := Ext.alloc (wc21.alloc (.map #[] 0)) (.map #[] 0)
        have z32 : ((wc21.alloc (.map #[] 0)).alloc (.map #[] 0)).heap.size = (wc21.alloc (.map #[] 0)).heap.size + 1 := by simp
        have e32 := e22.trans x32
        have hO32 := hO22.ext x32
        have hR32 := hR22.ext x32
        have hA32 : SM ((wc21.alloc (.map #[] 0)).alloc (.map #[] 0)) 4 (wc21.heap.size + 1) 0 (fun _ => none) := by have h := SM.made (wc21.alloc (.map #[] 0)) 4; rw [show (wc21.alloc (.map #[] 0)).heap.size = (wc21.heap.size + 1) from by simp] at h; exact h
        have z32b := e32.size
        refine hK _ _ (Or.inl (hSf _ e32)) ?_
        clear hK
        simp only [Act.put, List.getElem_toArray, List.getElem_cons_zero, List.getElem_cons_succ, List.setIfInBounds_toArray, List.set_cons_zero, List.set_cons_succ]
        refine wpS_one (i := 11) (by kernel_rfl) rfl (by kernel_rfl) (fun K hK => ?_)
        gi_wp2_with (refine ⟨trivial, ?_⟩; gi_at_call 38; refine (callsIn_wide.2 (hcU _ e32)).mono ?_; rintro e wc33 ⟨v33, rfl, hcd33, x33⟩)
        have hcd33' := hcd33
        obtain ⟨av33, cv33, hav33, _, _⟩ := hcd33'
        rw [List.length_map] at hav33
        subst hav33
        have e33 := e32.trans x33
        have z33 := x33.size
        have hO33 := hO32.ext x33
        have hA33 := hA32.ext x33
        have hR33 := hR32.ext x33
        have hU33 := hcd33.clAt
        have z33b := e33.size
        refine hK _ _ (Or.inl (hSf _ e33)) ?_
        clear hK
        simp only [Act.put, List.getElem_toArray, List.getElem_cons_zero, List.getElem_cons_succ, List.setIfInBounds_toArray, List.set_cons_zero, List.set_cons_succ]
        refine wpS_one (i := 15) (by kernel_rfl) rfl (by kernel_rfl) (fun K hK => ?_)
        gi_wp2_with (refine ⟨trivial, ?_⟩; gi_at_call 39; refine (callsIn_wide.2 (hcS _ e33)).mono ?_; rintro e wc34 ⟨v34, rfl, hcd34, x34⟩)
        have hcd34' := hcd34
        obtain ⟨av34, cv34, hav34, _, _⟩ := hcd34'
        rw [List.length_map] at hav34
        subst hav34
        have e34 := e33.trans x34
        have z34 := x34.size
        have hO34 := hO33.ext x34
        have hA34 := hA33.ext x34
        have hR34 := hR33.ext x34
        have hU34 := hU33.ext x34
        have hS34 := hcd34.clAt
        have z34b := e34.size
        refine hK _ _ (Or.inl (hSf _ e34)) ?_
        clear hK
        simp only [Act.put, List.getElem_toArray, List.getElem_cons_zero, List.getElem_cons_succ, List.setIfInBounds_toArray, List.set_cons_zero, List.set_cons_succ]
        refine wpS_one (i := 18) (by kernel_rfl) rfl (by kernel_rfl) (fun K hK => ?_)
        gi_wp2_with (refine ⟨trivial, ?_⟩; gi_at_call 40; refine (callsIn_wide.2 (cloneRecs_any _)).mono ?_; rintro e wc35 ⟨rfl, rfl⟩)
        have e35 := e34
        refine hK _ _ (Or.inl (hSf _ e35)) ?_
        clear hK
        simp only [Act.put, List.getElem_toArray, List.getElem_cons_zero, List.getElem_cons_succ, List.setIfInBounds_toArray, List.set_cons_zero, List.set_cons_succ]
        refine wpS_take (i := 25) (v := .agg #[.pointer (some ⟨T, 0, none⟩), .map (some wc21.heap.size), .slice av21 rl.length cv21, .map (some bR), .slice av33 us.length cv33, (.map (some bUn)), .slice av34 sl.length cv34, .slice none 0 0, .slice none 0 0, .slice none 0 0, (.map (some bC)), .map (some (wc21.heap.size + 1))]) (fun _ => trivial) (by kernel_rfl) rfl (by kernel_rfl) (by kernel_rfl) (by kernel_rfl) (by kernel_rfl) (by kernel_rfl) (fun _ _ _ h => h) (Or.inl ⟨by kernel_rfl, ?_⟩) (hSf _ e35) ?_
        · intro w' hSw; obtain ⟨s0, s1, s2, s3, s4, s5⟩ := hSw; go_simp
        simp only [Act.put, List.getElem_toArray, List.getElem_cons_zero, List.getElem_cons_succ, List.setIfInBounds_toArray, List.set_cons_zero, List.set_cons_succ]
        refine wpS_one (i := 26) (by kernel_rfl) rfl (by kernel_rfl) (fun K hK => ?_)
        go_simp
        refine hK _ _ (Or.inl (hSf _ (e35.trans (Ext.alloc _ _)))) ?_
        clear hK
        simp only [Act.put, List.getElem_toArray, List.getElem_cons_zero, List.getElem_cons_succ, List.setIfInBounds_toArray, List.set_cons_zero, List.set_cons_succ]
        refine wpS_take (i := 27) (v := .pointer (some ⟨wc34.heap.size, 0, none⟩)) (fun _ => trivial) (by kernel_rfl) rfl (by kernel_rfl) (by kernel_rfl) (by kernel_rfl) (by kernel_rfl) (by kernel_rfl) (fun _ _ _ h => h) (Or.inl ⟨by kernel_rfl, ?_⟩) (hSf _ (e35.trans (Ext.alloc _ _))) ?_
        · intro w' hSw; obtain ⟨s0, s1, s2, s3, s4, s5⟩ := hSw; go_simp
        simp only [Act.put, List.getElem_toArray, List.getElem_cons_zero, List.getElem_cons_succ, List.setIfInBounds_toArray, List.set_cons_zero, List.set_cons_succ]
        refine wpS_done (by kernel_rfl) ?_ _
        repeat (first | (exact newModel_f os rl us sl an A T bR Nr ao ar au ash aa co cr cu csh ca (.map (some bUn)) (.map (some bC)) w wB hn hnr hnu hns hna hwB hT hmr hW hos hRs hUs hSs han hur hnp hdest _ _ wB.drew.heap.size wc21.heap.size ((wc21.alloc (.map #[] 0)).alloc (.map #[] 0)).heap.size wc33.heap.size wc33.heap.size wc34.heap.size _ _ _ _ e35 hO34 hA34 hR34 hU34 hS34 (by omega) (by omega) (by omega) (by omega) (by omega) (by omega) (by omega) (by omega) (by omega) (by omega)) | go_values | go_skip | go_guarded | go_step | go_upon | (simp only [Int.not_lt, Int.not_le] at *; go_simp))
    · refine ⟨_, rfl, by kernel_rfl, fun K hK => ?_⟩
      gi_wp2_with (refine ⟨trivial, ?_⟩; gi_at_call 38; refine (callsIn_wide.2 (hcU _ e21)).mono ?_; rintro e wc36 ⟨v36, rfl, hcd36, x36⟩)
      have hcd36' := hcd36
      obtain ⟨av36, cv36, hav36, _, _⟩ := hcd36'
      rw [List.length_map] at hav36
      subst hav36
      have e36 := e21.trans x36
      have z36 := x36.size
      have hR36 := hR21.ext x36
      have hU36 := hcd36.clAt
      have z36b := e36.size
      refine hK _ _ (Or.inl (hSf _ e36)) ?_
      clear hK
      simp only [Act.put, List.getElem_toArray, List.getElem_cons_zero, List.getElem_cons_succ, List.setIfInBounds_toArray, List.set_cons_zero, List.set_cons_succ]
      refine wpS_br (rs := [4, 15, 24]) (by kernel_rfl) (by simp) ?_
      intro i hi
      simp only [List.mem_cons, List.not_mem_nil, or_false] at hi
      rcases hi with rfl | rfl | rfl
      · refine ⟨_, rfl, by kernel_rfl, fun K hK => ?_⟩
        go_simp
        have x37 := Ext.alloc wc36 (.map #[] 0)
        have z37 : (wc36.alloc (.map #[] 0)).heap.size = wc36.heap.size + 1 := by simp
        have e37 := e36.trans x37
        have hR37 := hR36.ext x37
        have hU37 := hU36.ext x37
        have hO37 := SM.made wc36 9
        have z37b := e37.size
        refine hK _ _ (Or.inl (hSf _ e37)) ?_
        clear hK
        simp only [Act.put, List.getElem_toArray, List.getElem_cons_zero, List.getElem_cons_succ, List.setIfInBounds_toArray, List.set_cons_zero, List.set_cons_succ]
        refine wpS_br (rs := [15, 24]) (by kernel_rfl) (by simp) ?_
        intro i hi
        simp only [List.mem_cons, List.not_mem_nil, or_false] at hi
        rcases hi with rfl | rfl
        · refine ⟨_, rfl, by kernel_rfl, fun K hK => ?_⟩
          gi_wp2_with (refine ⟨trivial, ?_⟩; gi_at_call 39; refine (callsIn_wide.2 (hcS _ e37)).mono ?_; rintro e wc38 ⟨v38, rfl, hcd38, x38⟩)
          have hcd38' := hcd38
          obtain ⟨av38, cv38, hav38, _, _⟩ := hcd38'
          rw [List.length_map] at hav38
          subst hav38
          have e38 := e37.trans x38
          have z38 := x38.size
          have hO38 := hO37.ext x38
          have hR38 := hR37.ext x38
          have hU38 := hU37.ext x38
          have hS38 := hcd38.clAt
          have z38b := e38.size
          refine hK _ _ (Or.inl (hSf _ e38)) ?_
          clear hK
          simp only [Act.put, List.getElem_toArray, List.getElem_cons_zero, List.getElem_cons_succ, List.setIfInBounds_toArray, List.set_cons_zero, List.set_cons_succ]
          refine wpS_br (rs := [18, 24]) (by kernel_rfl) (by simp) ?_
          intro i hi
          simp only [List.mem_cons, List.not_mem_nil, or_false] at hi
          rcases hi with rfl | rfl
          · refine ⟨_, rfl, by kernel_rfl, fun K hK => ?_⟩
            gi_wp2_with (refine ⟨trivial, ?_⟩; gi_at_call 40; refine (callsIn_wide.2 (cloneRecs_any _)).mono ?_; rintro e wc39 ⟨rfl, rfl⟩)
            have e39 := e38
            refine hK _ _ (Or.inl (hSf _ e39)) ?_
            clear hK
            simp only [Act.put, List.getElem_toArray, List.getElem_cons_zero, List.getElem_cons_succ, List.setIfInBounds_toArray, List.set_cons_zero, List.set_cons_succ]
            refine wpS_one (i := 24) (by kernel_rfl) rfl (by kernel_rfl) (fun K hK => ?_)
            go_simp
            have x40 := Ext.alloc wc38 (.map #[] 0)
            have z40 : (wc38.alloc (.map #[] 0)).heap.size = wc38.heap.size + 1 := by simp
            have e40 := e39.trans x40
            have hO40 := hO38.ext x40
            have hR40 := hR38.ext x40
            have hU40 := hU38.ext x40
            have hS40 := hS38.ext x40
            have hA40 := SM.made wc38 4
            have z40b := e40.size
            refine hK _ _ (Or.inl (hSf _ e40)) ?_
            clear hK
            simp only [Act.put, List.getElem_toArray, List.getElem_cons_zero, List.getElem_cons_succ, List.setIfInBounds_toArray, List.set_cons_zero, List.set_cons_succ]
            refine wpS_take (i := 25) (v := .agg #[.pointer (some ⟨T, 0, none⟩), .map (some wc36.heap.size), .slice av21 rl.length cv21, .map (some bR), .slice av36 us.length cv36, (.map (some bUn)), .slice av38 sl.length cv38, .slice none 0 0, .slice none 0 0, .slice none 0 0, (.map (some bC)), .map (some wc38.heap.size)]) (fun _ => trivial) (by kernel_rfl) rfl (by kernel_rfl) (by kernel_rfl) (by kernel_rfl) (by kernel_rfl) (by kernel_rfl) (fun _ _ _ h => h) (Or.inl ⟨by kernel_rfl, ?_⟩) (hSf _ e40) ?_
            · intro w' hSw; obtain ⟨s0, s1, s2, s3, s4, s5⟩ := hSw; go_simp
            simp only [Act.put, List.getElem_toArray, List.getElem_cons_zero, List.getElem_cons_succ, List.setIfInBounds_toArray, List.set_cons_zero, List.set_cons_succ]
            refine wpS_one (i := 26) (by kernel_rfl) rfl (by kernel_rfl) (fun K hK => ?_)
            go_simp
            refine hK _ _ (Or.inl (hSf _ (e40.trans (Ext.alloc _ _)))) ?_
            clear hK
            simp only [Act.put, List.getElem_toArray, List.getElem_cons_zero, List.getElem_cons_succ, List.setIfInBounds_toArray, List.set_cons_zero, List.set_cons_succ]
            refine wpS_take (i := 27) (v := .pointer (some ⟨(wc38.alloc (.map #[] 0)).heap.size, 0, none⟩)) (fun _ => trivial) (by kernel_rfl) rfl (by kernel_rfl) (by kernel_rfl) (by kernel_rfl) (by kernel_rfl) (by kernel_rfl) (fun _ _ _ h => h) (Or.inl ⟨by kernel_rfl, ?_⟩) (hSf _ (e40.trans (Ext.alloc _ _))) ?_
            · intro w' hSw; obtain ⟨s0, s1, s2, s3, s4, s5⟩ := hSw; go_simp
            simp only [Act.put, List.getElem_toArray, List.getElem_cons_zero, List.getElem_cons_succ, List.setIfInBounds_toArray, List.set_cons_zero, List.set_cons_succ]
            refine wpS_done (by kernel_rfl) ?_ _
            repeat (first | (exact newModel_f os rl us sl an A T bR Nr ao ar au ash aa co cr cu csh ca (.map (some bUn)) (.map (some bC)) w wB hn hnr hnu hns hna hwB hT hmr hW hos hRs hUs hSs han hur hnp hdest _ _ wB.drew.heap.size wc21.heap.size wc21.heap.size wc36.heap.size (wc36.alloc (.map #[] 0)).heap.size wc38.heap.size _ _ _ _ e40 hO40 hA40 hR40 hU40 hS40 (by omega) (by omega) (by omega) (by omega) (by omega) (by omega) (by omega) (by omega) (by omega) (by omega)) | go_values | go_skip | go_guarded | go_step | go_upon | (simp only [Int.not_lt, Int.not_le] at *; go_simp))
          · refine ⟨_, rfl, by kernel_rfl, fun K hK => ?_⟩
            go_simp
            have x41 := Ext.alloc wc38 (.map #[] 0)
            have z41 : (wc38.alloc (.map #[] 0)).heap.size = wc38.heap.size + 1 := by simp
            have e41 := e38.trans x41
            have hO41 := hO38.ext x41
            have hR41 := hR38.ext x41
            have hU41 := hU38.ext x41
            have hS41 := hS38.ext x41
            have hA41 := SM.made wc38 4
            have z41b := e41.size
            refine hK _ _ (Or.inl (hSf _ e41)) ?_
            clear hK
            simp only [Act.put, List.getElem_toArray, List.getElem_cons_zero, List.getElem_cons_succ, List.setIfInBounds_toArray, List.set_cons_zero, List.set_cons_succ]
            refine wpS_one (i := 18) (by kernel_rfl) rfl (by kernel_rfl) (fun K hK => ?_)
            gi_wp2_with (refine ⟨trivial, ?_⟩; gi_at_call 40; refine (callsIn_wide.2 (cloneRecs_any _)).mono ?_; rintro e wc42 ⟨rfl, rfl⟩)
            have e42 := e41
            refine hK _ _ (Or.inl (hSf _ e42)) ?_
            clear hK
            simp only [Act.put, List.getElem_toArray, List.getElem_cons_zero, List.getElem_cons_succ, List.setIfInBounds_toArray, List.set_cons_zero, List.set_cons_succ]
            refine wpS_take (i := 25) (v := .agg #[.pointer (some ⟨T, 0, none⟩), .map (some wc36.heap.size), .slice av21 rl.length cv21, .map (some bR), .slice av36 us.length cv36, (.map (some bUn)), .slice av38 sl.length cv38, .slice none 0 0, .slice none 0 0, .slice none 0 0, (.map (some bC)), .map (some wc38.heap.size)]) (fun _ => trivial) (by kernel_rfl) rfl (by kernel_rfl) (by kernel_rfl) (by kernel_rfl) (by kernel_rfl) (by kernel_rfl) (fun _ _ _ h => h) (Or.inl ⟨by kernel_rfl, ?_⟩) (hSf _ e42) ?_
            · intro w' hSw; obtain ⟨s0, s1, s2, s3, s4, s5⟩ := hSw; go_simp
            simp only [Act.put, List.getElem_toArray, List.getElem_cons_zero, List.getElem_cons_succ, List.setIfInBounds_toArray, List.set_cons_zero, List.set_cons_succ]
            refine wpS_one (i := 26) (by kernel_rfl) rfl (by kernel_rfl) (fun K hK => ?_)
            go_simp
            refine hK _ _ (Or.inl (hSf _ (e42.trans (Ext.alloc _ _)))) ?_
            clear hK
            simp only [Act.put, List.getElem_toArray, List.getElem_cons_zero, List.getElem_cons_succ, List.setIfInBounds_toArray, List.set_cons_zero, List.set_cons_succ]
            refine wpS_take (i := 27) (v := .pointer (some ⟨(wc38.alloc (.map #[] 0)).heap.size, 0, none⟩)) (fun _ => trivial) (by kernel_rfl) rfl (by kernel_rfl) (by kernel_rfl) (by kernel_rfl) (by kernel_rfl) (by kernel_rfl) (fun _ _ _ h => h) (Or.inl ⟨by kernel_rfl, ?_⟩) (hSf _ (e42.trans (Ext.alloc _ _))) ?_
            · intro w' hSw; obtain ⟨s0, s1, s2, s3, s4, s5⟩ := hSw; go_simp
            simp only [Act.put, List.getElem_toArray, List.getElem_cons_zero, List.getElem_cons_succ, List.setIfInBounds_toArray, List.set_cons_zero, List.set_cons_succ]
            refine wpS_done (by kernel_rfl) ?_ _
            repeat (first | (exact newModel_f os rl us sl an A T bR Nr ao ar au ash aa co cr cu csh ca (.map (some bUn)) (.map (some bC)) w wB hn hnr hnu hns hna hwB hT hmr hW hos hRs hUs hSs han hur hnp hdest _ _ wB.drew.heap.size wc21.heap.size wc21.heap.size wc36.heap.size (wc36.alloc (.map #[] 0)).heap.size wc38.heap.size _ _ _ _ e42 hO41 hA41 hR41 hU41 hS41 (by omega) (by omega) (by omega) (by omega) (by omega) (by omega) (by omega) (by omega) (by omega) (by omega)) | go_values | go_skip | go_guarded | go_step | go_upon | (simp only [Int.not_lt, Int.not_le] at *; go_simp))
        · refine ⟨_, rfl, by kernel_rfl, fun K hK => ?_⟩
          go_simp
          have x43 := Ext.alloc (wc36.alloc (.map #[] 0)) (.map #[] 0)
          have z43 : ((wc36.alloc (.map #[] 0)).alloc (.map #[] 0)).heap.size = (wc36.alloc (.map #[] 0)).heap.size + 1 := by simp
          have e43 := e37.trans x43
          have hO43 := hO37.ext x43
          have hR43 := hR37.ext x43
          have hU43 := hU37.ext x43
          have hA43 : SM ((wc36.alloc (.map #[] 0)).alloc (.map #[] 0)) 4 (wc36.heap.size + 1) 0 (fun _ => none) := by have h := SM.made (wc36.alloc (.map #[] 0)) 4; rw [show (wc36.alloc (.map #[] 0)).heap.size = (wc36.heap.size + 1) from by simp] at h; exact h
          have z43b := e43.size
          refine hK _ _ (Or.inl (hSf _ e43)) ?_
          clear hK
          simp only [Act.put, List.getElem_toArray, List.getElem_cons_zero, List.getElem_cons_succ, List.setIfInBounds_toArray, List.set_cons_zero, List.set_cons_succ]
          refine wpS_one (i := 15) (by kernel_rfl) rfl (by kernel_rfl) (fun K hK => ?_)
          gi_wp2_with (refine ⟨trivial, ?_⟩; gi_at_call 39; refine (callsIn_wide.2 (hcS _ e43)).mono ?_; rintro e wc44 ⟨v44, rfl, hcd44, x44⟩)
          have hcd44' := hcd44
          obtain ⟨av44, cv44, hav44, _, _⟩ := hcd44'
          rw [List.length_map] at hav44
          subst hav44
          have e44 := e43.trans x44
          have z44 := x44.size
          have hO44 := hO43.ext x44
          have hA44 := hA43.ext x44
          have hR44 := hR43.ext x44
          have hU44 := hU43.ext x44
          have hS44 := hcd44.clAt
          have z44b := e44.size
          refine hK _ _ (Or.inl (hSf _ e44)) ?_
          clear hK
          simp only [Act.put, List.getElem_toArray, List.getElem_cons_zero, List.getElem_cons_succ, List.setIfInBounds_toArray, List.set_cons_zero, List.set_cons_succ]
          refine wpS_one (i := 18) (by kernel_rfl) rfl (by kernel_rfl) (fun K hK => ?_)
          gi_wp2_with (refine ⟨trivial, ?_⟩; gi_at_call 40; refine (callsIn_wide.2 (cloneRecs_any _)).mono ?_; rintro e wc45 ⟨rfl, rfl⟩)
          have e45 := e44
          refine hK _ _ (Or.inl (hSf _ e45)) ?_
          clear hK
          simp only [Act.put, List.getElem_toArray, List.getElem_cons_zero, List.getElem_cons_succ, List.setIfInBounds_toArray, List.set_cons_zero, List.set_cons_succ]
          refine wpS_take (i := 25) (v := .agg #[.pointer (some ⟨T, 0, none⟩), .map (some wc36.heap.size), .slice av21 rl.length cv21, .map (some bR), .slice av36 us.length cv36, (.map (some bUn)), .slice av44 sl.length cv44, .slice none 0 0, .slice none 0 0, .slice none 0 0, (.map (some bC)), .map (some (wc36.heap.size + 1))]) (fun _ => trivial) (by kernel_rfl) rfl (by kernel_rfl) (by kernel_rfl) (by kernel_rfl) (by kernel_rfl) (by kernel_rfl) (fun _ _ _ h => h) (Or.inl ⟨by kernel_rfl, ?_⟩) (hSf _ e45) ?_
          · intro w' hSw; obtain ⟨s0, s1, s2, s3, s4, s5⟩ := hSw; go_simp
          simp only [Act.put, List.getElem_toArray, List.getElem_cons_zero, List.getElem_cons_succ, List.setIfInBounds_toArray, List.set_cons_zero, List.set_cons_succ]
          refine wpS_one (i := 26) (by kernel_rfl) rfl (by kernel_rfl) (fun K hK => ?_)
          go_simp
          refine hK _ _ (Or.inl (hSf _ (e45.trans (Ext.alloc _ _)))) ?_
          clear hK
          simp only [Act.put, List.getElem_toArray, List.getElem_cons_zero, List.getElem_cons_succ, List.setIfInBounds_toArray, List.set_cons_zero, List.set_cons_succ]
          refine wpS_take (i := 27) (v := .pointer (some ⟨wc44.heap.size, 0, none⟩)) (fun _ => trivial) (by kernel_rfl) rfl (by kernel_rfl) (by kernel_rfl) (by kernel_rfl) (by kernel_rfl) (by kernel_rfl) (fun _ _ _ h => h) (Or.inl ⟨by kernel_rfl, ?_⟩) (hSf _ (e45.trans (Ext.alloc _ _))) ?_
          · intro w' hSw; obtain ⟨s0, s1, s2, s3, s4, s5⟩ := hSw; go_simp
          simp only [Act.put, List.getElem_toArray, List.getElem_cons_zero, List.getElem_cons_succ, List.setIfInBounds_toArray, List.set_cons_zero, List.set_cons_succ]
          refine wpS_done (by kernel_rfl) ?_ _
          repeat (first | (exact newModel_f os rl us sl an A T bR Nr ao ar au ash aa co cr cu csh ca (.map (some bUn)) (.map (some bC)) w wB hn hnr hnu hns hna hwB hT hmr hW hos hRs hUs hSs han hur hnp hdest _ _ wB.drew.heap.size wc21.heap.size wc21.heap.size wc36.heap.size ((wc36.alloc (.map #[] 0)).alloc (.map #[] 0)).heap.size wc44.heap.size _ _ _ _ e45 hO44 hA44 hR44 hU44 hS44 (by omega) (by omega) (by omega) (by omega) (by omega) (by omega) (by omega) (by omega) (by omega) (by omega)) | go_values | go_skip | go_guarded | go_step | go_upon | (simp only [Int.not_lt, Int.not_le] at *; go_simp))
      · refine ⟨_, rfl, by kernel_rfl, fun K hK => ?_⟩
        gi_wp2_with (refine ⟨trivial, ?_⟩; gi_at_call 39; refine (callsIn_wide.2 (hcS _ e36)).mono ?_; rintro e wc46 ⟨v46, rfl, hcd46, x46⟩)
        have hcd46' := hcd46
        obtain ⟨av46, cv46, hav46, _, _⟩ := hcd46'
        rw [List.length_map] at hav46
        subst hav46
        have e46 := e36.trans x46
        have z46 := x46.size
        have hR46 := hR36.ext x46
        have hU46 := hU36.ext x46
        have hS46 := hcd46.clAt
        have z46b := e46.size
        refine hK _ _ (Or.inl (hSf _ e46)) ?_
        clear hK
        simp only [Act.put, List.getElem_toArray, List.getElem_cons_zero, List.getElem_cons_succ, List.setIfInBounds_toArray, List.set_cons_zero, List.set_cons_succ]
        refine wpS_br (rs := [4, 18, 24]) (by kernel_rfl) (by simp) ?_
        intro i hi
        simp only [List.mem_cons, List.not_mem_nil, or_false] at hi
        rcases hi with rfl | rfl | rfl
        · refine ⟨_, rfl, by kernel_rfl, fun K hK => ?_⟩
          go_simp
          have x47 := Ext.alloc wc46 (.map #[] 0)
          have z47 : (wc46.alloc (.map #[] 0)).heap.size = wc46.heap.size + 1 := by simp
          have e47 := e46.trans x47
          have hR47 := hR46.ext x47
          have hU47 := hU46.ext x47
          have hS47 := hS46.ext x47
          have hO47 := SM.made wc46 9
          have z47b := e47.size
          refine hK _ _ (Or.inl (hSf _ e47)) ?_
          clear hK
          simp only [Act.put, List.getElem_toArray, List.getElem_cons_zero, List.getElem_cons_succ, List.setIfInBounds_toArray, List.set_cons_zero, List.set_cons_succ]
          refine wpS_br (rs := [18, 24]) (by kernel_rfl) (by simp) ?_
          intro i hi
          simp only [List.mem_cons, List.not_mem_nil, or_false] at hi
          rcases hi with rfl | rfl
          · refine ⟨_, rfl, by kernel_rfl, fun K hK => ?_⟩
            gi_wp2_with (refine ⟨trivial, ?_⟩; gi_at_call 40; refine (callsIn_wide.2 (cloneRecs_any _)).mono ?_; rintro e wc48 ⟨rfl, rfl⟩)
            have e48 := e47
            refine hK _ _ (Or.inl (hSf _ e48)) ?_
            clear hK
            simp only [Act.put, List.getElem_toArray, List.getElem_cons_zero, List.getElem_cons_succ, List.setIfInBounds_toArray, List.set_cons_zero, List.set_cons_succ]
            refine wpS_one (i := 24) (by kernel_rfl) rfl (by kernel_rfl) (fun K hK => ?_)
            go_simp
            have x49 := Ext.alloc (wc46.alloc (.map #[] 0)) (.map #[] 0)
            have z49 : ((wc46.alloc (.map #[] 0)).alloc (.map #[] 0)).heap.size = (wc46.alloc (.map #[] 0)).heap.size + 1 := by simp
            have e49 := e48.trans x49
            have hO49 := hO47.ext x49
            have hR49 := hR47.ext x49
            have hU49 := hU47.ext x49
            have hS49 := hS47.ext x49
            have hA49 : SM ((wc46.alloc (.map #[] 0)).alloc (.map #[] 0)) 4 (wc46.heap.size + 1) 0 (fun _ => none) := by have h := SM.made (wc46.alloc (.map #[] 0)) 4; rw [show (wc46.alloc (.map #[] 0)).heap.size = (wc46.heap.size + 1) from by simp] at h; exact h
            have z49b := e49.size
            refine hK _ _ (Or.inl (hSf _ e49)) ?_
            clear hK
            simp only [Act.put, List.getElem_toArray, List.getElem_cons_zero, List.getElem_cons_succ, List.setIfInBounds_toArray, List.set_cons_zero, List.set_cons_succ]
            refine wpS_take (i := 25) (v := .agg #[.pointer (some ⟨T, 0, none⟩), .map (some wc46.heap.size), .slice av21 rl.length cv21, .map (some bR), .slice av36 us.length cv36, (.map (some bUn)), .slice av46 sl.length cv46, .slice none 0 0, .slice none 0 0, .slice none 0 0, (.map (some bC)), .map (some (wc46.heap.size + 1))]) (fun _ => trivial) (by kernel_rfl) rfl (by kernel_rfl) (by kernel_rfl) (by kernel_rfl) (by kernel_rfl) (by kernel_rfl) (fun _ _ _ h => h) (Or.inl ⟨by kernel_rfl, ?_⟩) (hSf _ e49) ?_
            · intro w' hSw; obtain ⟨s0, s1, s2, s3, s4, s5⟩ := hSw; go_simp
            simp only [Act.put, List.getElem_toArray, List.getElem_cons_zero, List.getElem_cons_succ, List.setIfInBounds_toArray, List.set_cons_zero, List.set_cons_succ]
            refine wpS_one (i := 26) (by kernel_rfl) rfl (by kernel_rfl) (fun K hK => ?_)
            go_simp
            refine hK _ _ (Or.inl (hSf _ (e49.trans (Ext.alloc _ _)))) ?_
            clear hK
            simp only [Act.put, List.getElem_toArray, List.getElem_cons_zero, List.getElem_cons_succ, List.setIfInBounds_toArray, List.set_cons_zero, List.set_cons_succ]
            refine wpS_take (i := 27) (v := .pointer (some ⟨((wc46.alloc (.map #[] 0)).alloc (.map #[] 0)).heap.size, 0, none⟩)) (fun _ => trivial) (by kernel_rfl) rfl (by kernel_rfl) (by kernel_rfl) (by kernel_rfl) (by kernel_rfl) (by kernel_rfl) (fun _ _ _ h => h) (Or.inl ⟨by kernel_rfl, ?_⟩) (hSf _ (e49.trans (Ext.alloc _ _))) ?_
            · intro w' hSw; obtain ⟨s0, s1, s2, s3, s4, s5⟩ := hSw; go_simp
            simp only [Act.put, List.getElem_toArray, List.getElem_cons_zero, List.getElem_cons_succ, List.setIfInBounds_toArray, List.set_cons_zero, List.set_cons_succ]
            refine wpS_done (by kernel_rfl) ?_ _
            repeat (first | (exact newModel_f os rl us sl an A T bR Nr ao ar au ash aa co cr cu csh ca (.map (some bUn)) (.map (some bC)) w wB hn hnr hnu hns hna hwB hT hmr hW hos hRs hUs hSs han hur hnp hdest _ _ wB.drew.heap.size wc21.heap.size wc21.heap.size wc36.heap.size wc36.heap.size wc46.heap.size _ _ _ _ e49 hO49 hA49 hR49 hU49 hS49 (by omega) (by omega) (by omega) (by omega) (by omega) (by omega) (by omega) (by omega) (by omega) (by omega)) | go_values | go_skip | go_guarded | go_step | go_upon | (simp only [Int.not_lt, Int.not_le] at *; go_simp))
          · refine ⟨_, rfl, by kernel_rfl, fun K hK => ?_⟩
            go_simp
            have x50 := Ext.alloc (wc46.alloc (.map #[] 0)) (.map #[] 0)
            have z50 : ((wc46.alloc (.map #[] 0)).alloc (.map #[] 0)).heap.size = (wc46.alloc (.map #[] 0)).heap.size + 1 := by simp
            have e50 := e47.trans x50
            have hO50 := hO47.ext x50
            have hR50 := hR47.ext x50
            have hU50 := hU47.ext x50
            have hS50 := hS47.ext x50
            have hA50 : SM ((wc46.alloc (.map #[] 0)).alloc (.map #[] 0)) 4 (wc46.heap.size + 1) 0 (fun _ => none) := by have h := SM.made (wc46.alloc (.map #[] 0)) 4; rw [show (wc46.alloc (.map #[] 0)).heap.size = (wc46.heap.size + 1) from by simp] at h; exact h
            have z50b := e50.size
            refine hK _ _ (Or.inl (hSf _ e50)) ?_
            clear hK
            simp only [Act.put, List.getElem_toArray, List.getElem_cons_zero, List.getElem_cons_succ, List.setIfInBounds_toArray, List.set_cons_zero, List.set_cons_succ]
            refine wpS_one (i := 18) (by kernel_rfl) rfl (by kernel_rfl) (fun K hK => ?_)
            gi_wp2_with (refine ⟨trivial, ?_⟩; gi_at_call 40; refine (callsIn_wide.2 (cloneRecs_any _)).mono ?_; rintro e wc51 ⟨rfl, rfl⟩)
            have e51 := e50
            refine hK _ _ (Or.inl (hSf _ e51)) ?_
            clear hK
            simp only [Act.put, List.getElem_toArray, List.getElem_cons_zero, List.getElem_cons_succ, List.setIfInBounds_toArray, List.set_cons_zero, List.set_cons_succ]
            refine wpS_take (i := 25) (v := .agg #[.pointer (some ⟨T, 0, none⟩), .map (some wc46.heap.size), .slice av21 rl.length cv21, .map (some bR), .slice av36 us.length cv36, (.map (some bUn)), .slice av46 sl.length cv46, .slice none 0 0, .slice none 0 0, .slice none 0 0, (.map (some bC)), .map (some (wc46.heap.size + 1))]) (fun _ => trivial) (by kernel_rfl) rfl (by kernel_rfl) (by kernel_rfl) (by kernel_rfl) (by kernel_rfl) (by kernel_rfl) (fun _ _ _ h => h) (Or.inl ⟨by kernel_rfl, ?_⟩) (hSf _ e51) ?_
            · intro w' hSw; obtain ⟨s0, s1, s2, s3, s4, s5⟩ := hSw; go_simp
            simp only [Act.put, List.getElem_toArray, List.getElem_cons_zero, List.getElem_cons_succ, List.setIfInBounds_toArray, List.set_cons_zero, List.set_cons_succ]
            refine wpS_one (i := 26) (by kernel_rfl) rfl (by kernel_rfl) (fun K hK => ?_)
            go_simp
            refine hK _ _ (Or.inl (hSf _ (e51.trans (Ext.alloc _ _)))) ?_
            clear hK
            simp only [Act.put, List.getElem_toArray, List.getElem_cons_zero, List.getElem_cons_succ, List.setIfInBounds_toArray, List.set_cons_zero, List.set_cons_succ]
            refine wpS_take (i := 27) (v := .pointer (some ⟨((wc46.alloc (.map #[] 0)).alloc (.map #[] 0)).heap.size, 0, none⟩)) (fun _ => trivial) (by kernel_rfl) rfl (by kernel_rfl) (by kernel_rfl) (by kernel_rfl) (by kernel_rfl) (by kernel_rfl) (fun _ _ _ h => h) (Or.inl ⟨by kernel_rfl, ?_⟩) (hSf _ (e51.trans (Ext.alloc _ _))) ?_
            · intro w' hSw; obtain ⟨s0, s1, s2, s3, s4, s5⟩ := hSw; go_simp
            simp only [Act.put, List.getElem_toArray, List.getElem_cons_zero, List.getElem_cons_succ, List.setIfInBounds_toArray, List.set_cons_zero, List.set_cons_succ]
            refine wpS_done (by kernel_rfl) ?_ _
            repeat (first | (exact newModel_f os rl us sl an A T bR Nr ao ar au ash aa co cr cu csh ca (.map (some bUn)) (.map (some bC)) w wB hn hnr hnu hns hna hwB hT hmr hW hos hRs hUs hSs han hur hnp hdest _ _ wB.drew.heap.size wc21.heap.size wc21.heap.size wc36.heap.size wc36.heap.size wc46.heap.size _ _ _ _ e51 hO50 hA50 hR50 hU50 hS50 (by omega) (by omega) (by omega) (by omega) (by omega) (by omega) (by omega) (by omega) (by omega) (by omega)) | go_values | go_skip | go_guarded | go_step | go_upon | (simp only [Int.not_lt, Int.not_le] at *; go_simp))
        · refine ⟨_, rfl, by kernel_rfl, fun K hK => ?_⟩
          gi_wp2_with (refine ⟨trivial, ?_⟩; gi_at_call 40; refine (callsIn_wide.2 (cloneRecs_any _)).mono ?_; rintro e wc52 ⟨rfl, rfl⟩)
          have e52 := e46
          refine hK _ _ (Or.inl (hSf _ e52)) ?_
          clear hK
          simp only [Act.put, List.getElem_toArray, List.getElem_cons_zero, List.getElem_cons_succ, List.setIfInBounds_toArray, List.set_cons_zero, List.set_cons_succ]
          refine wpS_br (rs := [4, 24]) (by kernel_rfl) (by simp) ?_
          intro i hi
          simp only [List.mem_cons, List.not_mem_nil, or_false] at hi
          rcases hi with rfl | rfl
          · refine ⟨_, rfl, by kernel_rfl, fun K hK => ?_⟩
            go_simp
            have x53 := Ext.alloc wc46 (.map #[] 0)
            have z53 : (wc46.alloc (.map #[] 0)).heap.size = wc46.heap.size + 1 := by simp
            have e53 := e52.trans x53
            have hR53 := hR46.ext x53
            have hU53 := hU46.ext x53
            have hS53 := hS46.ext x53
            have hO53 := SM.made wc46 9
            have z53b := e53.size
            refine hK _ _ (Or.inl (hSf _ e53)) ?_
            clear hK
            simp only [Act.put, List.getElem_toArray, List.getElem_cons_zero, List.getElem_cons_succ, List.setIfInBounds_toArray, List.set_cons_zero, List.set_cons_succ]
            refine wpS_one (i := 24) (by kernel_rfl) rfl (by kernel_rfl) (fun K hK => ?_)
            go_simp
            have x54 := Ext.alloc (wc46.alloc (.map #[] 0)) (.map #[] 0)
            have z54 : ((wc46.alloc (.map #[] 0)).alloc (.map #[] 0)).heap.size = (wc46.alloc (.map #[] 0)).heap.size + 1 := by simp
            have e54 := e53.trans x54
            have hO54 := hO53.ext x54
            have hR54 := hR53.ext x54
            have hU54 := hU53.ext x54
            have hS54 := hS53.ext x54
            have hA54 : SM ((wc46.alloc (.map #[] 0)).alloc (.map #[] 0)) 4 (wc46.heap.size + 1) 0 (fun _ => none) := by have h := SM.made (wc46.alloc (.map #[] 0)) 4; rw [show (wc46.alloc (.map #[] 0)).heap.size = (wc46.heap.size + 1) from by simp] at h; exact h
            have z54b := e54.size
            refine hK _ _ (Or.inl (hSf _ e54)) ?_
            clear hK
            simp only [Act.put, List.getElem_toArray, List.getElem_cons_zero, List.getElem_cons_succ, List.setIfInBounds_toArray, List.set_cons_zero, List.set_cons_succ]
            refine wpS_take (i := 25) (v := .agg #[.pointer (some ⟨T, 0, none⟩), .map (some wc46.heap.size), .slice av21 rl.length cv21, .map (some bR), .slice av36 us.length cv36, (.map (some bUn)), .slice av46 sl.length cv46, .slice none 0 0, .slice none 0 0, .slice none 0 0, (.map (some bC)), .map (some (wc46.heap.size + 1))]) (fun _ => trivial) (by kernel_rfl) rfl (by kernel_rfl) (by kernel_rfl) (by kernel_rfl) (by kernel_rfl) (by kernel_rfl) (fun _ _ _ h => h) (Or.inl ⟨by kernel_rfl, ?_⟩) (hSf _ e54) ?_
            · intro w' hSw; obtain ⟨s0, s1, s2, s3, s4, s5⟩ := hSw; go_simp
            simp only [Act.put, List.getElem_toArray, List.getElem_cons_zero, List.getElem_cons_succ, List.setIfInBounds_toArray, List.set_cons_zero, List.set_cons_succ]
            refine wpS_one (i := 26) (by kernel_rfl) rfl (by kernel_rfl) (fun K hK => ?_)
            go_simp
            refine hK _ _ (Or.inl (hSf _ (e54.trans (Ext.alloc _ _)))) ?_
            clear hK
            simp only [Act.put, List.getElem_toArray, List.getElem_cons_zero, List.getElem_cons_succ, List.setIfInBounds_toArray, List.set_cons_zero, List.set_cons_succ]
            refine wpS_take (i := 27) (v := .pointer (some ⟨((wc46.alloc (.map #[] 0)).alloc (.map #[] 0)).heap.size, 0, none⟩)) (fun _ => trivial) (by kernel_rfl) rfl (by kernel_rfl) (by kernel_rfl) (by kernel_rfl) (by kernel_rfl) (by kernel_rfl) (fun _ _ _ h => h) (Or.inl ⟨by kernel_rfl, ?_⟩) (hSf _ (e54.trans (Ext.alloc _ _))) ?_
            · intro w' hSw; obtain ⟨s0, s1, s2, s3, s4, s5⟩ := hSw; go_simp
            simp only [Act.put, List.getElem_toArray, List.getElem_cons_zero, List.getElem_cons_succ, List.setIfInBounds_toArray, List.set_cons_zero, List.set_cons_succ]
            refine wpS_done (by kernel_rfl) ?_ _
            repeat (first | (exact newModel_f os rl us sl an A T bR Nr ao ar au ash aa co cr cu csh ca (.map (some bUn)) (.map (some bC)) w wB hn hnr hnu hns hna hwB hT hmr hW hos hRs hUs hSs han hur hnp hdest _ _ wB.drew.heap.size wc21.heap.size wc21.heap.size wc36.heap.size wc36.heap.size wc46.heap.size _ _ _ _ e54 hO54 hA54 hR54 hU54 hS54 (by omega) (by omega) (by omega) (by omega) (by omega) (by omega) (by omega) (by omega) (by omega) (by omega)) | go_values | go_skip | go_guarded | go_step | go_upon | (simp only [Int.not_lt, Int.not_le] at *; go_simp))
          · refine ⟨_, rfl, by kernel_rfl, fun K hK => ?_⟩
            go_simp
            have x55 := Ext.alloc wc46 (.map #[] 0)
            have z55 : (wc46.alloc (.map #[] 0)).heap.size = wc46.heap.size + 1 := by simp
            have e55 := e52.trans x55
            have hR55 := hR46.ext x55
            have hU55 := hU46.ext x55
            have hS55 := hS46.ext x55
            have hA55 := SM.made wc46 4
            have z55b := e55.size
            refine hK _ _ (Or.inl (hSf _ e55)) ?_
            clear hK
            simp only [Act.put, List.getElem_toArray, List.getElem_cons_zero, List.getElem_cons_succ, List.setIfInBounds_toArray, List.set_cons_zero, List.set_cons_succ]
            refine wpS_one (i := 4) (by kernel_rfl) rfl (by kernel_rfl) (fun K hK => ?_)
            go_simp
            have x56 := Ext.alloc (wc46.alloc (.map #[] 0)) (.map #[] 0)
            have z56 : ((wc46.alloc (.map #[] 0)).alloc (.map #[] 0)).heap.size = (wc46.alloc (.map #[] 0)).heap.size + 1 := by simp
            have e56 := e55.trans x56
            have hA56 := hA55.ext x56
            have hR56 := hR55.ext x56
            have hU56 := hU55.ext x56
            have hS56 := hS55.ext x56
            have hO56 : SM ((wc46.alloc (.map #[] 0)).alloc (.map #[] 0)) 9 (wc46.heap.size + 1) 0 (fun _ => none) := by have h := SM.made (wc46.alloc (.map #[] 0)) 9; rw [show (wc46.alloc (.map #[] 0)).heap.size = (wc46.heap.size + 1) from by simp] at h; exact h
            have z56b := e56.size
            refine hK _ _ (Or.inl (hSf _ e56)) ?_
            clear hK
            simp only [Act.put, List.getElem_toArray, List.getElem_cons_zero, List.getElem_cons_succ, List.setIfInBounds_toArray, List.set_cons_zero, List.set_cons_succ]
            refine wpS_take (i := 25) (v := .agg #[.pointer (some ⟨T, 0, none⟩), .map (some (wc46.heap.size + 1)), .slice av21 rl.length cv21, .map (some bR), .slice av36 us.length cv36, (.map (some bUn)), .slice av46 sl.length cv46, .slice none 0 0, .slice none 0 0, .slice none 0 0, (.map (some bC)), .map (some wc46.heap.size)]) (fun _ => trivial) (by kernel_rfl) rfl (by kernel_rfl) (by kernel_rfl) (by kernel_rfl) (by kernel_rfl) (by kernel_rfl) (fun _ _ _ h => h) (Or.inl ⟨by kernel_rfl, ?_⟩) (hSf _ e56) ?_
            · intro w' hSw; obtain ⟨s0, s1, s2, s3, s4, s5⟩ := hSw; go_simp
            simp only [Act.put, List.getElem_toArray, List.getElem_cons_zero, List.getElem_cons_succ, List.setIfInBounds_toArray, List.set_cons_zero, List.set_cons_succ]
            refine wpS_one (i := 26) (by kernel_rfl) rfl (by kernel_rfl) (fun K hK => ?_)
            go_simp
            refine hK _ _ (Or.inl (hSf _ (e56.trans (Ext.alloc _ _)))) ?_
            clear hK
            simp only [Act.put, List.getElem_toArray, List.getElem_cons_zero, List.getElem_cons_succ, List.setIfInBounds_toArray, List.set_cons_zero, List.set_cons_succ]
            refine wpS_take (i := 27) (v := .pointer (some ⟨((wc46.alloc (.map #[] 0)).alloc (.map #[] 0)).heap.size, 0, none⟩)) (fun _ => trivial) (by kernel_rfl) rfl (by kernel_rfl) (by kernel_rfl) (by kernel_rfl) (by kernel_rfl) (by kernel_rfl) (fun _ _ _ h => h) (Or.inl ⟨by kernel_rfl, ?_⟩) (hSf _ (e56.trans (Ext.alloc _ _))) ?_
            · intro w' hSw; obtain ⟨s0, s1, s2, s3, s4, s5⟩ := hSw; go_simp
            simp only [Act.put, List.getElem_toArray, List.getElem_cons_zero, List.getElem_cons_succ, List.setIfInBounds_toArray, List.set_cons_zero, List.set_cons_succ]
            refine wpS_done (by kernel_rfl) ?_ _
            repeat (first | (exact newModel_f os rl us sl an A T bR Nr ao ar au ash aa co cr cu csh ca (.map (some bUn)) (.map (some bC)) w wB hn hnr hnu hns hna hwB hT hmr hW hos hRs hUs hSs han hur hnp hdest _ _ wB.drew.heap.size wc21.heap.size wc21.heap.size wc36.heap.size wc36.heap.size wc46.heap.size _ _ _ _ e56 hO56 hA56 hR56 hU56 hS56 (by omega) (by omega) (by omega) (by omega) (by omega) (by omega) (by omega) (by omega) (by omega) (by omega)) | go_values | go_skip | go_guarded | go_step | go_upon | (simp only [Int.not_lt, Int.not_le] at *; go_simp))
        · refine ⟨_, rfl, by kernel_rfl, fun K hK => ?_⟩
          go_simp
          have x57 := Ext.alloc wc46 (.map #[] 0)
          have z57 : (wc46.alloc (.map #[] 0)).heap.size = wc46.heap.size + 1 := by simp
          have e57 := e46.trans x57
          have hR57 := hR46.ext x57
          have hU57 := hU46.ext x57
          have hS57 := hS46.ext x57
          have hA57 := SM.made wc46 4
          have z57b := e57.size
          refine hK _ _ (Or.inl (hSf _ e57)) ?_
          clear hK
          simp only [Act.put, List.getElem_toArray, List.getElem_cons_zero, List.getElem_cons_succ, List.setIfInBounds_toArray, List.set_cons_zero, List.set_cons_succ]
          refine wpS_br (rs := [4, 18]) (by kernel_rfl) (by simp) ?_
          intro i hi
          simp only [List.mem_cons, List.not_mem_nil, or_false] at hi
          rcases hi with rfl | rfl
          · refine ⟨_, rfl, by kernel_rfl, fun K hK => ?_⟩
            go_simp
            have x58 := Ext.alloc (wc46.alloc (.map #[] 0)) (.map #[] 0)
            have z58 : ((wc46.alloc (.map #[] 0)).alloc (.map #[] 0)).heap.size = (wc46.alloc (.map #[] 0)).heap.size + 1 := by simp
            have e58 := e57.trans x58
            have hA58 := hA57.ext x58
            have hR58 := hR57.ext x58
            have hU58 := hU57.ext x58
            have hS58 := hS57.ext x58
            have hO58 : SM ((wc46.alloc (.map #[] 0)).alloc (.map #[] 0)) 9 (wc46.heap.size + 1) 0 (fun _ => none) := by have h := SM.made (wc46.alloc (.map #[] 0)) 9; rw [show (wc46.alloc (.map #[] 0)).heap.size = (wc46.heap.size + 1) from by simp] at h; exact h
            have z58b := e58.size
            refine hK _ _ (Or.inl (hSf _ e58)) ?_
            clear hK
            simp only [Act.put, List.getElem_toArray, List.getElem_cons_zero, List.getElem_cons_succ, List.setIfInBounds_toArray, List.set_cons_zero, List.set_cons_succ]
            refine wpS_one (i := 18) (by kernel_rfl) rfl (by kernel_rfl) (fun K hK => ?_)
            gi_wp2_with (refine ⟨trivial, ?_⟩; gi_at_call 40; refine (callsIn_wide.2 (cloneRecs_any _)).mono ?_; rintro e wc59 ⟨rfl, rfl⟩)
            have e59 := e58
            refine hK _ _ (Or.inl (hSf _ e59)) ?_
            clear hK
            simp only [Act.put, List.getElem_toArray, List.getElem_cons_zero, List.getElem_cons_succ, List.setIfInBounds_toArray, List.set_cons_zero, List.set_cons_succ]
            refine wpS_take (i := 25) (v := .agg #[.pointer (some ⟨T, 0, none⟩), .map (some (wc46.heap.size + 1)), .slice av21 rl.length cv21, .map (some bR), .slice av36 us.length cv36, (.map (some bUn)), .slice av46 sl.length cv46, .slice none 0 0, .slice none 0 0, .slice none 0 0, (.map (some bC)), .map (some wc46.heap.size)]) (fun _ => trivial) (by kernel_rfl) rfl (by kernel_rfl) (by kernel_rfl) (by kernel_rfl) (by kernel_rfl) (by kernel_rfl) (fun _ _ _ h => h) (Or.inl ⟨by kernel_rfl, ?_⟩) (hSf _ e59) ?_
            · intro w' hSw; obtain ⟨s0, s1, s2, s3, s4, s5⟩ := hSw; go_simp
            simp only [Act.put, List.getElem_toArray, List.getElem_cons_zero, List.getElem_cons_succ, List.setIfInBounds_toArray, List.set_cons_zero, List.set_cons_succ]
            refine wpS_one (i := 26) (by kernel_rfl) rfl (by kernel_rfl) (fun K hK => ?_)
            go_simp
            refine hK _ _ (Or.inl (hSf _ (e59.trans (Ext.alloc _ _)))) ?_
            clear hK
            simp only [Act.put, List.getElem_toArray, List.getElem_cons_zero, List.getElem_cons_succ, List.setIfInBounds_toArray, List.set_cons_zero, List.set_cons_succ]
            refine wpS_take (i := 27) (v := .pointer (some ⟨((wc46.alloc (.map #[] 0)).alloc (.map #[] 0)).heap.size, 0, none⟩)) (fun _ => trivial) (by kernel_rfl) rfl (by kernel_rfl) (by kernel_rfl) (by kernel_rfl) (by kernel_rfl) (by kernel_rfl) (fun _ _ _ h => h) (Or.inl ⟨by kernel_rfl, ?_⟩) (hSf _ (e59.trans (Ext.alloc _ _))) ?_
            · intro w' hSw; obtain ⟨s0, s1, s2, s3, s4, s5⟩ := hSw; go_simp
            simp only [Act.put, List.getElem_toArray, List.getElem_cons_zero, List.getElem_cons_succ, List.setIfInBounds_toArray, List.set_cons_zero, List.set_cons_succ]
            refine wpS_done (by kernel_rfl) ?_ _
            repeat (first | (exact newModel_f os rl us sl an A T bR Nr ao ar au ash aa co cr cu csh ca (.map (some bUn)) (.map (some bC)) w wB hn hnr hnu hns hna hwB hT hmr hW hos hRs hUs hSs han hur hnp hdest _ _ wB.drew.heap.size wc21.heap.size wc21.heap.size wc36.heap.size wc36.heap.size wc46.heap.size _ _ _ _ e59 hO58 hA58 hR58 hU58 hS58 (by omega) (by omega) (by omega) (by omega) (by omega) (by omega) (by omega) (by omega) (by omega) (by omega)) | go_values | go_skip | go_guarded | go_step | go_upon | (simp only [Int.not_lt, Int.not_le] at *; go_simp))
          · refine ⟨_, rfl, by kernel_rfl, fun K hK => ?_⟩
            gi_wp2_with (refine ⟨trivial, ?_⟩; gi_at_call 40; refine (callsIn_wide.2 (cloneRecs_any _)).mono ?_; rintro e wc60 ⟨rfl, rfl⟩)
            have e60 := e57
            refine hK _ _ (Or.inl (hSf _ e60)) ?_
            clear hK
            simp only [Act.put, List.getElem_toArray, List.getElem_cons_zero, List.getElem_cons_succ, List.setIfInBounds_toArray, List.set_cons_zero, List.set_cons_succ]
            refine wpS_one (i := 4) (by kernel_rfl) rfl (by kernel_rfl) (fun K hK => ?_)
            go_simp
            have x61 := Ext.alloc (wc46.alloc (.map #[] 0)) (.map #[] 0)
            have z61 : ((wc46.alloc (.map #[] 0)).alloc (.map #[] 0)).heap.size = (wc46.alloc (.map #[] 0)).heap.size + 1 := by simp
            have e61 := e60.trans x61
            have hA61 := hA57.ext x61
            have hR61 := hR57.ext x61
            have hU61 := hU57.ext x61
            have hS61 := hS57.ext x61
            have hO61 : SM ((wc46.alloc (.map #[] 0)).alloc (.map #[] 0)) 9 (wc46.heap.size + 1) 0 (fun _ => none) := by have h := SM.made (wc46.alloc (.map #[] 0)) 9; rw [show (wc46.alloc (.map #[] 0)).heap.size = (wc46.heap.size + 1) from by simp] at h; exact h
            have z61b := e61.size
            refine hK _ _ (Or.inl (hSf _ e61)) ?_
            clear hK
            simp only [Act.put, List.getElem_toArray, List.getElem_cons_zero, List.getElem_cons_succ, List.setIfInBounds_toArray, List.set_cons_zero, List.set_cons_succ]
            refine wpS_take (i := 25) (v := .agg #[.pointer (some ⟨T, 0, none⟩), .map (some (wc46.heap.size + 1)), .slice av21 rl.length cv21, .map (some bR), .slice av36 us.length cv36, (.map (some bUn)), .slice av46 sl.length cv46, .slice none 0 0, .slice none 0 0, .slice none 0 0, (.map (some bC)), .map (some wc46.heap.size)]) (fun _ => trivial) (by kernel_rfl) rfl (by kernel_rfl) (by kernel_rfl) (by kernel_rfl) (by kernel_rfl) (by kernel_rfl) (fun _ _ _ h => h) (Or.inl ⟨by kernel_rfl, ?_⟩) (hSf _ e61) ?_
            · intro w' hSw; obtain ⟨s0, s1, s2, s3, s4, s5⟩ := hSw; go_simp
            simp only [Act.put, List.getElem_toArray, List.getElem_cons_zero, List.getElem_cons_succ, List.setIfInBounds_toArray, List.set_cons_zero, List.set_cons_succ]
            refine wpS_one (i := 26) (by kernel_rfl) rfl (by kernel_rfl) (fun K hK => ?_)
            go_simp
            refine hK _ _ (Or.inl (hSf _ (e61.trans (Ext.alloc _ _)))) ?_
            clear hK
            simp only [Act.put, List.getElem_toArray, List.getElem_cons_zero, List.getElem_cons_succ, List.setIfInBounds_toArray, List.set_cons_zero, List.set_cons_succ]
            refine wpS_take (i := 27) (v := .pointer (some ⟨((wc46.alloc (.map #[] 0)).alloc (.map #[] 0)).heap.size, 0, none⟩)) (fun _ => trivial) (by kernel_rfl) rfl (by kernel_rfl) (by kernel_rfl) (by kernel_rfl) (by kernel_rfl) (by kernel_rfl) (fun _ _ _ h => h) (Or.inl ⟨by kernel_rfl, ?_⟩) (hSf _ (e61.trans (Ext.alloc _ _))) ?_
            · intro w' hSw; obtain ⟨s0, s1, s2, s3, s4, s5⟩ := hSw; go_simp
            simp only [Act.put, List.getElem_toArray, List.getElem_cons_zero, List.getElem_cons_succ, List.setIfInBounds_toArray, List.set_cons_zero, List.set_cons_succ]
            refine wpS_done (by kernel_rfl) ?_ _
            repeat (first | (exact newModel_f os rl us sl an A T bR Nr ao ar au ash aa co cr cu csh ca (.map (some bUn)) (.map (some bC)) w wB hn hnr hnu hns hna hwB hT hmr hW hos hRs hUs hSs han hur hnp hdest _ _ wB.drew.heap.size wc21.heap.size wc21.heap.size wc36.heap.size wc36.heap.size wc46.heap.size _ _ _ _ e61 hO61 hA61 hR61 hU61 hS61 (by omega) (by omega) (by omega) (by omega) (by omega) (by omega) (by omega) (by omega) (by omega) (by omega)) | go_values | go_skip | go_guarded | go_step | go_upon | (simp only [Int.not_lt, Int.not_le] at *; go_simp))
      · refine ⟨_, rfl, by kernel_rfl, fun K hK => ?_⟩
        go_simp
        have x62 := Ext.alloc wc36 (.map #[] 0)
        have z62 : (wc36.alloc (.map #[] 0)).heap.size = wc36.heap.size + 1 := by simp
        have e62 := e36.trans x62
        have hR62 := hR36.ext x62
        have hU62 := hU36.ext x62
        have hA62 := SM.made wc36 4
        have z62b := e62.size
        refine hK _ _ (Or.inl (hSf _ e62)) ?_
        clear hK
        simp only [Act.put, List.getElem_toArray, List.getElem_cons_zero, List.getElem_cons_succ, List.setIfInBounds_toArray, List.set_cons_zero, List.set_cons_succ]
        refine wpS_br (rs := [4, 15]) (by kernel_rfl) (by simp) ?_
        intro i hi
        simp only [List.mem_cons, List.not_mem_nil, or_false] at hi
        rcases hi with rfl | rfl
        · refine ⟨_, rfl, by kernel_rfl, fun K hK => ?_⟩
          go_simp
          have x63 := Ext.alloc (wc36.alloc (.map #[] 0)) (.map #[] 0)
          have z63 : ((wc36.alloc (.map #[] 0)).alloc (.map #[] 0)).heap.size = (wc36.alloc (.map #[] 0)).heap.size + 1 := by simp
          have e63 := e62.trans x63
          have hA63 := hA62.ext x63
          have hR63 := hR62.ext x63
          have hU63 := hU62.ext x63
          have hO63 : SM ((wc36.alloc (.map #[] 0)).alloc (.map #[] 0)) 9 (wc36.heap.size + 1) 0 (fun _ => none) := by have h := SM.made (wc36.alloc (.map #[] 0)) 9; rw [show (wc36.alloc (.map #[] 0)).heap.size = (wc36.heap.size + 1) from by simp] at h; exact h
          have z63b := e63.size
          refine hK _ _ (Or.inl (hSf _ e63)) ?_
          clear hK
          simp only [Act.put, List.getElem_toArray, List.getElem_cons_zero, List.getElem_cons_succ, List.setIfInBounds_toArray, List.set_cons_zero, List.set_cons_succ]
          refine wpS_one (i := 15) (by kernel_rfl) rfl (by kernel_rfl) (fun K hK => ?_)
          gi_wp2_with (refine ⟨trivial, ?_⟩; gi_at_call 39; refine (callsIn_wide.2 (hcS _ e63)).mono ?_; rintro e wc64 ⟨v64, rfl, hcd64, x64⟩)
          have hcd64' := hcd64
          obtain ⟨av64, cv64, hav64, _, _⟩ := hcd64'
          rw [List.length_map] at hav64
          subst hav64
          have e64 := e63.trans x64
          have z64 := x64.size
          have hO64 := hO63.ext x64
          have hA64 := hA63.ext x64
          have hR64 := hR63.ext x64
          have hU64 := hU63.ext x64
          have hS64 := hcd64.clAt
          have z64b := e64.size
          refine hK _ _ (Or.inl (hSf _ e64)) ?_
          clear hK
          simp only [Act.put, List.getElem_toArray, List.getElem_cons_zero, List.getElem_cons_succ, List.setIfInBounds_toArray, List.set_cons_zero, List.set_cons_succ]
          refine wpS_one (i := 18) (by kernel_rfl) rfl (by kernel_rfl) (fun K hK => ?_)
          gi_wp2_with (refine ⟨trivial, ?_⟩; gi_at_call 40; refine (callsIn_wide.2 (cloneRecs_any _)).mono ?_; rintro e wc65 ⟨rfl, rfl⟩)
          have e65 := e64
          refine hK _ _ (Or.inl (hSf _ e65)) ?_
          clear hK
          simp only [Act.put, List.getElem_toArray, List.getElem_cons_zero, List.getElem_cons_succ, List.setIfInBounds_toArray, List.set_cons_zero, List.set_cons_succ]
          refine wpS_take (i := 25) (v := .agg #[.pointer (some ⟨T, 0, none⟩), .map (some (wc36.heap.size + 1)), .slice av21 rl.length cv21, .map (some bR), .slice av36 us.length cv36, (.map (some bUn)), .slice av64 sl.length cv64, .slice none 0 0, .slice none 0 0, .slice none 0 0, (.map (some bC)), .map (some wc36.heap.size)]) (fun _ => trivial) (by kernel_rfl) rfl (by kernel_rfl) (by kernel_rfl) (by kernel_rfl) (by kernel_rfl) (by kernel_rfl) (fun _ _ _ h => h) (Or.inl ⟨by kernel_rfl, ?_⟩) (hSf _ e65) ?_
          · intro w' hSw; obtain ⟨s0, s1, s2, s3, s4, s5⟩ := hSw; go_simp
          simp only [Act.put, List.getElem_toArray, List.getElem_cons_zero, List.getElem_cons_succ, List.setIfInBounds_toArray, List.set_cons_zero, List.set_cons_succ]
          refine wpS_one (i := 26) (by kernel_rfl) rfl (by kernel_rfl) (fun K hK => ?_)
          go_simp
          refine hK _ _ (Or.inl (hSf _ (e65.trans (Ext.alloc _ _)))) ?_
          clear hK
          simp only [Act.put, List.getElem_toArray, List.getElem_cons_zero, List.getElem_cons_succ, List.setIfInBounds_toArray, List.set_cons_zero, List.set_cons_succ]
          refine wpS_take (i := 27) (v := .pointer (some ⟨wc64.heap.size, 0, none⟩)) (fun _ => trivial) (by kernel_rfl) rfl (by kernel_rfl) (by kernel_rfl) (by kernel_rfl) (by kernel_rfl) (by kernel_rfl) (fun _ _ _ h => h) (Or.inl ⟨by kernel_rfl, ?_⟩) (hSf _ (e65.trans (Ext.alloc _ _))) ?_
          · intro w' hSw; obtain ⟨s0, s1, s2, s3, s4, s5⟩ := hSw; go_simp
          simp only [Act.put, List.getElem_toArray, List.getElem_cons_zero, List.getElem_cons_succ, List.setIfInBounds_toArray, List.set_cons_zero, List.set_cons_succ]
          refine wpS_done (by kernel_rfl) ?_ _
          repeat (first | (exact newModel_f os rl us sl an A T bR Nr ao ar au ash aa co cr cu csh ca (.map (some bUn)) (.map (some bC)) w wB hn hnr hnu hns hna hwB hT hmr hW hos hRs hUs hSs han hur hnp hdest _ _ wB.drew.heap.size wc21.heap.size wc21.heap.size wc36.heap.size ((wc36.alloc (.map #[] 0)).alloc (.map #[] 0)).heap.size wc64.heap.size _ _ _ _ e65 hO64 hA64 hR64 hU64 hS64 (by omega) (by omega) (by omega) (by omega) (by omega) (by omega) (by omega) (by omega) (by omega) (by omega)) | go_values | go_skip | go_guarded | go_step | go_upon | (simp only [Int.not_lt, Int.not_le] at *; go_simp))
        · refine ⟨_, rfl, by kernel_rfl, fun K hK => ?_⟩
          gi_wp2_with (refine ⟨trivial, ?_⟩; gi_at_call 39; refine (callsIn_wide.2 (hcS _ e62)).mono ?_; rintro e wc66 ⟨v66, rfl, hcd66, x66⟩)
          have hcd66' := hcd66
          obtain ⟨av66, cv66, hav66, _, _⟩ := hcd66'
          rw [List.length_map] at hav66
          subst hav66
          have e66 := e62.trans x66
          have z66 := x66.size
          have hA66 := hA62.ext x66
          have hR66 := hR62.ext x66
          have hU66 := hU62.ext x66
          have hS66 := hcd66.clAt
          have z66b := e66.size
          refine hK _ _ (Or.inl (hSf _ e66)) ?_
          clear hK
          simp only [Act.put, List.getElem_toArray, List.getElem_cons_zero, List.getElem_cons_succ, List.setIfInBounds_toArray, List.set_cons_zero, List.set_cons_succ]
          refine wpS_br (rs := [4, 18]) (by kernel_rfl) (by simp) ?_
          intro i hi
          simp only [List.mem_cons, List.not_mem_nil, or_false] at hi
          rcases hi with rfl | rfl
          · refine ⟨_, rfl, by kernel_rfl, fun K hK => ?_⟩
            go_simp
            have x67 := Ext.alloc wc66 (.map #[] 0)
            have z67 : (wc66.alloc (.map #[] 0)).heap.size = wc66.heap.size + 1 := by simp
            have e67 := e66.trans x67
            have hA67 := hA66.ext x67
            have hR67 := hR66.ext x67
            have hU67 := hU66.ext x67
            have hS67 := hS66.ext x67
            have hO67 := SM.made wc66 9
            have z67b := e67.size
            refine hK _ _ (Or.inl (hSf _ e67)) ?_
            clear hK
            simp only [Act.put, List.getElem_toArray, List.getElem_cons_zero, List.getElem_cons_succ, List.setIfInBounds_toArray, List.set_cons_zero, List.set_cons_succ]
            refine wpS_one (i := 18) (by kernel_rfl) rfl (by kernel_rfl) (fun K hK => ?_)
            gi_wp2_with (refine ⟨trivial, ?_⟩; gi_at_call 40; refine (callsIn_wide.2 (cloneRecs_any _)).mono ?_; rintro e wc68 ⟨rfl, rfl⟩)
            have e68 := e67
            refine hK _ _ (Or.inl (hSf _ e68)) ?_
            clear hK
            simp only [Act.put, List.getElem_toArray, List.getElem_cons_zero, List.getElem_cons_succ, List.setIfInBounds_toArray, List.set_cons_zero, List.set_cons_succ]
            refine wpS_take (i := 25) (v := .agg #[.pointer (some ⟨T, 0, none⟩), .map (some wc66.heap.size), .slice av21 rl.length cv21, .map (some bR), .slice av36 us.length cv36, (.map (some bUn)), .slice av66 sl.length cv66, .slice none 0 0, .slice none 0 0, .slice none 0 0, (.map (some bC)), .map (some wc36.heap.size)]) (fun _ => trivial) (by kernel_rfl) rfl (by kernel_rfl) (by kernel_rfl) (by kernel_rfl) (by kernel_rfl) (by kernel_rfl) (fun _ _ _ h => h) (Or.inl ⟨by kernel_rfl, ?_⟩) (hSf _ e68) ?_
            · intro w' hSw; obtain ⟨s0, s1, s2, s3, s4, s5⟩ := hSw; go_simp
            simp only [Act.put, List.getElem_toArray, List.getElem_cons_zero, List.getElem_cons_succ, List.setIfInBounds_toArray, List.set_cons_zero, List.set_cons_succ]
            refine wpS_one (i := 26) (by kernel_rfl) rfl (by kernel_rfl) (fun K hK => ?_)
            go_simp
            refine hK _ _ (Or.inl (hSf _ (e68.trans (Ext.alloc _ _)))) ?_
            clear hK
            simp only [Act.put, List.getElem_toArray, List.getElem_cons_zero, List.getElem_cons_succ, List.setIfInBounds_toArray, List.set_cons_zero, List.set_cons_succ]
            refine wpS_take (i := 27) (v := .pointer (some ⟨(wc66.alloc (.map #[] 0)).heap.size, 0, none⟩)) (fun _ => trivial) (by kernel_rfl) rfl (by kernel_rfl) (by kernel_rfl) (by kernel_rfl) (by kernel_rfl) (by kernel_rfl) (fun _ _ _ h => h) (Or.inl ⟨by kernel_rfl, ?_⟩) (hSf _ (e68.trans (Ext.alloc _ _))) ?_
            · intro w' hSw; obtain ⟨s0, s1, s2, s3, s4, s5⟩ := hSw; go_simp
            simp only [Act.put, List.getElem_toArray, List.getElem_cons_zero, List.getElem_cons_succ, List.setIfInBounds_toArray, List.set_cons_zero, List.set_cons_succ]
            refine wpS_done (by kernel_rfl) ?_ _
            repeat (first | (exact newModel_f os rl us sl an A T bR Nr ao ar au ash aa co cr cu csh ca (.map (some bUn)) (.map (some bC)) w wB hn hnr hnu hns hna hwB hT hmr hW hos hRs hUs hSs han hur hnp hdest _ _ wB.drew.heap.size wc21.heap.size wc21.heap.size wc36.heap.size (wc36.alloc (.map #[] 0)).heap.size wc66.heap.size _ _ _ _ e68 hO67 hA67 hR67 hU67 hS67 (by omega) (by omega) (by omega) (by omega) (by omega) (by omega) (by omega) (by omega) (by omega) (by omega)) | go_values | go_skip | go_guarded | go_step | go_upon | (simp only [Int.not_lt, Int.not_le] at *; go_simp))
          · refine ⟨_, rfl, by kernel_rfl, fun K hK => ?_⟩
            gi_wp2_with (refine ⟨trivial, ?_⟩; gi_at_call 40; refine (callsIn_wide.2 (cloneRecs_any _)).mono ?_; rintro e wc69 ⟨rfl, rfl⟩)
            have e69 := e66
            refine hK _ _ (Or.inl (hSf _ e69)) ?_
            clear hK
            simp only [Act.put, List.getElem_toArray, List.getElem_cons_zero, List.getElem_cons_succ, List.setIfInBounds_toArray, List.set_cons_zero, List.set_cons_succ]
            refine wpS_one (i := 4) (by kernel_rfl) rfl (by kernel_rfl) (fun K hK => ?_)
            go_simp
            have x70 := Ext.alloc wc66 (.map #[] 0)
            have z70 : (wc66.alloc (.map #[] 0)).heap.size = wc66.heap.size + 1 := by simp
            have e70 := e69.trans x70
            have hA70 := hA66.ext x70
            have hR70 := hR66.ext x70
            have hU70 := hU66.ext x70
            have hS70 := hS66.ext x70
            have hO70 := SM.made wc66 9
            have z70b := e70.size
            refine hK _ _ (Or.inl (hSf _ e70)) ?_
            clear hK
            simp only [Act.put, List.getElem_toArray, List.getElem_cons_zero, List.getElem_cons_succ, List.setIfInBounds_toArray, List.set_cons_zero, List.set_cons_succ]
            refine wpS_take (i := 25) (v := .agg #[.pointer (some ⟨T, 0, none⟩), .map (some wc66.heap.size), .slice av21 rl.length cv21, .map (some bR), .slice av36 us.length cv36, (.map (some bUn)), .slice av66 sl.length cv66, .slice none 0 0, .slice none 0 0, .slice none 0 0, (.map (some bC)), .map (some wc36.heap.size)]) (fun _ => trivial) (by kernel_rfl) rfl (by kernel_rfl) (by kernel_rfl) (by kernel_rfl) (by kernel_rfl) (by kernel_rfl) (fun _ _ _ h => h) (Or.inl ⟨by kernel_rfl, ?_⟩) (hSf _ e70) ?_
            · intro w' hSw; obtain ⟨s0, s1, s2, s3, s4, s5⟩ := hSw; go_simp
            simp only [Act.put, List.getElem_toArray, List.getElem_cons_zero, List.getElem_cons_succ, List.setIfInBounds_toArray, List.set_cons_zero, List.set_cons_succ]
            refine wpS_one (i := 26) (by kernel_rfl) rfl (by kernel_rfl) (fun K hK => ?_)
            go_simp
            refine hK _ _ (Or.inl (hSf _ (e70.trans (Ext.alloc _ _)))) ?_
            clear hK
            simp only [Act.put, List.getElem_toArray, List.getElem_cons_zero, List.getElem_cons_succ, List.setIfInBounds_toArray, List.set_cons_zero, List.set_cons_succ]
            refine wpS_take (i := 27) (v := .pointer (some ⟨(wc66.alloc (.map #[] 0)).heap.size, 0, none⟩)) (fun _ => trivial) (by kernel_rfl) rfl (by kernel_rfl) (by kernel_rfl) (by kernel_rfl) (by kernel_rfl) (by kernel_rfl) (fun _ _ _ h => h) (Or.inl ⟨by kernel_rfl, ?_⟩) (hSf _ (e70.trans (Ext.alloc _ _))) ?_
            · intro w' hSw; obtain ⟨s0, s1, s2, s3, s4, s5⟩ := hSw; go_simp
            simp only [Act.put, List.getElem_toArray, List.getElem_cons_zero, List.getElem_cons_succ, List.setIfInBounds_toArray, List.set_cons_zero, List.set_cons_succ]
            refine wpS_done (by kernel_rfl) ?_ _
            repeat (first | (exact newModel_f os rl us sl an A T bR Nr ao ar au ash aa co cr cu csh ca (.map (some bUn)) (.map (some bC)) w wB hn hnr hnu hns hna hwB hT hmr hW hos hRs hUs hSs han hur hnp hdest _ _ wB.drew.heap.size wc21.heap.size wc21.heap.size wc36.heap.size (wc36.alloc (.map #[] 0)).heap.size wc66.heap.size _ _ _ _ e70 hO70 hA70 hR70 hU70 hS70 (by omega) (by omega) (by omega) (by omega) (by omega) (by omega) (by omega) (by omega) (by omega) (by omega)) | go_values | go_skip | go_guarded | go_step | go_upon | (simp only [Int.not_lt, Int.not_le] at *; go_simp))
    · refine ⟨_, rfl, by kernel_rfl, fun K hK => ?_⟩
      go_simp
      have x71 := Ext.alloc wc21 (.map #[] 0)
      have z71 : (wc21.alloc (.map #[] 0)).heap.size = wc21.heap.size + 1 := by simp
      have e71 := e21.trans x71
      have hR71 := hR21.ext x71
      have hA71 := SM.made wc21 4
      have z71b := e71.size
      refine hK _ _ (Or.inl (hSf _ e71)) ?_
      clear hK
      simp only [Act.put, List.getElem_toArray, List.getElem_cons_zero, List.getElem_cons_succ, List.setIfInBounds_toArray, List.set_cons_zero, List.set_cons_succ]
      refine wpS_br (rs := [4, 11]) (by kernel_rfl) (by simp) ?_
      intro i hi
      simp only [List.mem_cons, List.not_mem_nil, or_false] at hi
      rcases hi with rfl | rfl
      · refine ⟨_, rfl, by kernel_rfl, fun K hK => ?_⟩
        go_simp
        have x72 := Ext.alloc (wc21.alloc (.map #[] 0)) (.map #[] 0)
        have z72 : ((wc21.alloc (.map #[] 0)).alloc (.map #[] 0)).heap.size = (wc21.alloc (.map #[] 0)).heap.size + 1 := by simp
        have e72 := e71.trans x72
        have hA72 := hA71.ext x72
        have hR72 := hR71.ext x72
        have hO72 : SM ((wc21.alloc (.map #[] 0)).alloc (.map #[] 0)) 9 (wc21.heap.size + 1) 0 (fun _ => none) := by have h := SM.made (wc21.alloc (.map #[] 0)) 9; rw [show (wc21.alloc (.map #[] 0)).heap.size = (wc21.heap.size + 1) from by simp] at h; exact h
        have z72b := e72.size
        refine hK _ _ (Or.inl (hSf _ e72)) ?_
        clear hK
        simp only [Act.put, List.getElem_toArray, List.getElem_cons_zero, List.getElem_cons_succ, List.setIfInBounds_toArray, List.set_cons_zero, List.set_cons_succ]
        refine wpS_one (i := 11) (by kernel_rfl) rfl (by kernel_rfl) (fun K hK => ?_)
        gi_wp2_with (refine ⟨trivial, ?_⟩; gi_at_call 38; refine (callsIn_wide.2 (hcU _ e72)).mono ?_; rintro e wc73 ⟨v73, rfl, hcd73, x73⟩)
        have hcd73' := hcd73
        obtain ⟨av73, cv73, hav73, _, _⟩ := hcd73'
        rw [List.length_map] at hav73
        subst hav73
        have e73 := e72.trans x73
        have z73 := x73.size
        have hO73 := hO72.ext x73
        have hA73 := hA72.ext x73
        have hR73 := hR72.ext x73
        have hU73 := hcd73.clAt
        have z73b := e73.size
        refine hK _ _ (Or.inl (hSf _ e73)) ?_
        clear hK
        simp only [Act.put, List.getElem_toArray, List.getElem_cons_zero, List.getElem_cons_succ, List.setIfInBounds_toArray, List.set_cons_zero, List.set_cons_succ]
        refine wpS_one (i := 15) (by kernel_rfl) rfl (by kernel_rfl) (fun K hK => ?_)
        gi_wp2_with (refine ⟨trivial, ?_⟩; gi_at_call 39; refine (callsIn_wide.2 (hcS _ e73)).mono ?_; rintro e wc74 ⟨v74, rfl, hcd74, x74⟩)
        have hcd74' := hcd74
        obtain ⟨av74, cv74, hav74, _, _⟩ := hcd74'
        rw [List.length_map] at hav74
        subst hav74
        have e74 := e73.trans x74
        have z74 := x74.size
        have hO74 := hO73.ext x74
        have hA74 := hA73.ext x74
        have hR74 := hR73.ext x74
        have hU74 := hU73.ext x74
        have hS74 := hcd74.clAt
        have z74b := e74.size
        refine hK _ _ (Or.inl (hSf _ e74)) ?_
        clear hK
        simp only [Act.put, List.getElem_toArray, List.getElem_cons_zero, List.getElem_cons_succ, List.setIfInBounds_toArray, List.set_cons_zero, List.set_cons_succ]
        refine wpS_one (i := 18) (by kernel_rfl) rfl (by kernel_rfl) (fun K hK => ?_)
        gi_wp2_with (refine ⟨trivial, ?_⟩; gi_at_call 40; refine (callsIn_wide.2 (cloneRecs_any _)).mono ?_; rintro e wc75 ⟨rfl, rfl⟩)
        have e75 := e74
        refine hK _ _ (Or.inl (hSf _ e75)) ?_
        clear hK
        simp only [Act.put, List.getElem_toArray, List.getElem_cons_zero, List.getElem_cons_succ, List.setIfInBounds_toArray, List.set_cons_zero, List.set_cons_succ]
        refine wpS_take (i := 25) (v := .agg #[.pointer (some ⟨T, 0, none⟩), .map (some (wc21.heap.size + 1)), .slice av21 rl.length cv21, .map (some bR), .slice av73 us.length cv73, (.map (some bUn)), .slice av74 sl.length cv74, .slice none 0 0, .slice none 0 0, .slice none 0 0, (.map (some bC)), .map (some wc21.heap.size)]) (fun _ => trivial) (by kernel_rfl) rfl (by kernel_rfl) (by kernel_rfl) (by kernel_rfl) (by kernel_rfl) (by kernel_rfl) (fun _ _ _ h => h) (Or.inl ⟨by kernel_rfl, ?_⟩) (hSf _ e75) ?_
        · intro w' hSw; obtain ⟨s0, s1, s2, s3, s4, s5⟩ := hSw; go_simp
        simp only [Act.put, List.getElem_toArray, List.getElem_cons_zero, List.getElem_cons_succ, List.setIfInBounds_toArray, List.set_cons_zero, List.set_cons_succ]
        refine wpS_one (i := 26) (by kernel_rfl) rfl (by kernel_rfl) (fun K hK => ?_)
        go_simp
        refine hK _ _ (Or.inl (hSf _ (e75.trans (Ext.alloc _ _)))) ?_
        clear hK
        simp only [Act.put, List.getElem_toArray, List.getElem_cons_zero, List.getElem_cons_succ, List.setIfInBounds_toArray, List.set_cons_zero, List.set_cons_succ]
        refine wpS_take (i := 27) (v := .pointer (some ⟨wc74.heap.size, 0, none⟩)) (fun _ => trivial) (by kernel_rfl) rfl (by kernel_rfl) (by kernel_rfl) (by kernel_rfl) (by kernel_rfl) (by kernel_rfl) (fun _ _ _ h => h) (Or.inl ⟨by kernel_rfl, ?_⟩) (hSf _ (e75.trans (Ext.alloc _ _))) ?_
        · intro w' hSw; obtain ⟨s0, s1, s2, s3, s4, s5⟩ := hSw; go_simp
        simp only [Act.put, List.getElem_toArray, List.getElem_cons_zero, List.getElem_cons_succ, List.setIfInBounds_toArray, List.set_cons_zero, List.set_cons_succ]
        refine wpS_done (by kernel_rfl) ?_ _
        repeat (first | (exact newModel_f os rl us sl an A T bR Nr ao ar au ash aa co cr cu csh ca (.map (some bUn)) (.map (some bC)) w wB hn hnr hnu hns hna hwB hT hmr hW hos hRs hUs hSs han hur hnp hdest _ _ wB.drew.heap.size wc21.heap.size ((wc21.alloc (.map #[] 0)).alloc (.map #[] 0)).heap.size wc73.heap.size wc73.heap.size wc74.heap.size _ _ _ _ e75 hO74 hA74 hR74 hU74 hS74 (by omega) (by omega) (by omega) (by omega) (by omega) (by omega) (by omega) (by omega) (by omega) (by omega)) | go_values | go_skip | go_guarded | go_step | go_upon | (simp only [Int.not_lt, Int.not_le] at *; go_simp))
      · refine ⟨_, rfl, by kernel_rfl, fun K hK => ?_⟩
        gi_wp2_with (refine ⟨trivial, ?_⟩; gi_at_call 38; refine (callsIn_wide.2 (hcU _ e71)).mono ?_; rintro e wc76 ⟨v76, rfl, hcd76, x76⟩)
        have hcd76' := hcd76
        obtain ⟨av76, cv76, hav76, _, _⟩ := hcd76'
        rw [List.length_map] at hav76
        subst hav76
        have e76 := e71.trans x76
        have z76 := x76.size
        have hA76 := hA71.ext x76
        have hR76 := hR71.ext x76
        have hU76 := hcd76.clAt
        have z76b := e76.size
        refine hK _ _ (Or.inl (hSf _ e76)) ?_
        clear hK
        simp only [Act.put, List.getElem_toArray, List.getElem_cons_zero, List.getElem_cons_succ, List.setIfInBounds_toArray, List.set_cons_zero, List.set_cons_succ]
        refine wpS_br (rs := [4, 15]) (by kernel_rfl) (by simp) ?_
        intro i hi
        simp only [List.mem_cons, List.not_mem_nil, or_false] at hi
        rcases hi with rfl | rfl
        · refine ⟨_, rfl, by kernel_rfl, fun K hK => ?_⟩
          go_simp
          have x77 := Ext.alloc wc76 (.map #[] 0)
          have z77 : (wc76.alloc (.map #[] 0)).heap.size = wc76.heap.size + 1 := by simp
          have e77 := e76.trans x77
          have hA77 := hA76.ext x77
          have hR77 := hR76.ext x77
          have hU77 := hU76.ext x77
          have hO77 := SM.made wc76 9
          have z77b := e77.size
          refine hK _ _ (Or.inl (hSf _ e77)) ?_
          clear hK
          simp only [Act.put, List.getElem_toArray, List.getElem_cons_zero, List.getElem_cons_succ, List.setIfInBounds_toArray, List.set_cons_zero, List.set_cons_succ]
          refine wpS_one (i := 15) (by kernel_rfl) rfl (by kernel_rfl) (fun K hK => ?_)
          gi_wp2_with (refine ⟨trivial, ?_⟩; gi_at_call 39; refine (callsIn_wide.2 (hcS _ e77)).mono ?_; rintro e wc78 ⟨v78, rfl, hcd78, x78⟩)
          have hcd78' := hcd78
          obtain ⟨av78, cv78, hav78, _, _⟩ := hcd78'
          rw [List.length_map] at hav78
          subst hav78
          have e78 := e77.trans x78
          have z78 := x78.size
          have hO78 := hO77.ext x78
          have hA78 := hA77.ext x78
          have hR78 := hR77.ext x78
          have hU78 := hU77.ext x78
          have hS78 := hcd78.clAt
          have z78b := e78.size
          refine hK _ _ (Or.inl (hSf _ e78)) ?_
          clear hK
          simp only [Act.put, List.getElem_toArray, List.getElem_cons_zero, List.getElem_cons_succ, List.setIfInBounds_toArray, List.set_cons_zero, List.set_cons_succ]
          refine wpS_one (i := 18) (by kernel_rfl) rfl (by kernel_rfl) (fun K hK => ?_)
          gi_wp2_with (refine ⟨trivial, ?_⟩; gi_at_call 40; refine (callsIn_wide.2 (cloneRecs_any _)).mono ?_; rintro e wc79 ⟨rfl, rfl⟩)
          have e79 := e78
          refine hK _ _ (Or.inl (hSf _ e79)) ?_
          clear hK
          simp only [Act.put, List.getElem_toArray, List.getElem_cons_zero, List.getElem_cons_succ, List.setIfInBounds_toArray, List.set_cons_zero, List.set_cons_succ]
          refine wpS_take (i := 25) (v := .agg #[.pointer (some ⟨T, 0, none⟩), .map (some wc76.heap.size), .slice av21 rl.length cv21, .map (some bR), .slice av76 us.length cv76, (.map (some bUn)), .slice av78 sl.length cv78, .slice none 0 0, .slice none 0 0, .slice none 0 0, (.map (some bC)), .map (some wc21.heap.size)]) (fun _ => trivial) (by kernel_rfl) rfl (by kernel_rfl) (by kernel_rfl) (by kernel_rfl) (by kernel_rfl) (by kernel_rfl) (fun _ _ _ h => h) (Or.inl ⟨by kernel_rfl, ?_⟩) (hSf _ e79) ?_
          · intro w' hSw; obtain ⟨s0, s1, s2, s3, s4, s5⟩ := hSw; go_simp
          simp only [Act.put, List.getElem_toArray, List.getElem_cons_zero, List.getElem_cons_succ, List.setIfInBounds_toArray, List.set_cons_zero, List.set_cons_succ]
          refine wpS_one (i := 26) (by kernel_rfl) rfl (by kernel_rfl) (fun K hK => ?_)
          go_simp
          refine hK _ _ (Or.inl (hSf _ (e79.trans (Ext.alloc _ _)))) ?_
          clear hK
          simp only [Act.put, List.getElem_toArray, List.getElem_cons_zero, List.getElem_cons_succ, List.setIfInBounds_toArray, List.set_cons_zero, List.set_cons_succ]
          refine wpS_take (i := 27) (v := .pointer (some ⟨wc78.heap.size, 0, none⟩)) (fun _ => trivial) (by kernel_rfl) rfl (by kernel_rfl) (by kernel_rfl) (by kernel_rfl) (by kernel_rfl) (by kernel_rfl) (fun _ _ _ h => h) (Or.inl ⟨by kernel_rfl, ?_⟩) (hSf _ (e79.trans (Ext.alloc _ _))) ?_
          · intro w' hSw; obtain ⟨s0, s1, s2, s3, s4, s5⟩ := hSw; go_simp
          simp only [Act.put, List.getElem_toArray, List.getElem_cons_zero, List.getElem_cons_succ, List.setIfInBounds_toArray, List.set_cons_zero, List.set_cons_succ]
          refine wpS_done (by kernel_rfl) ?_ _
          repeat (first | (exact newModel_f os rl us sl an A T bR Nr ao ar au ash aa co cr cu csh ca (.map (some bUn)) (.map (some bC)) w wB hn hnr hnu hns hna hwB hT hmr hW hos hRs hUs hSs han hur hnp hdest _ _ wB.drew.heap.size wc21.heap.size (wc21.alloc (.map #[] 0)).heap.size wc76.heap.size (wc76.alloc (.map #[] 0)).heap.size wc78.heap.size _ _ _ _ e79 hO78 hA78 hR78 hU78 hS78 (by omega) (by omega) (by omega) (by omega) (by omega) (by omega) (by omega) (by omega) (by omega) (by omega)) | go_values | go_skip | go_guarded | go_step | go_upon | (simp only [Int.not_lt, Int.not_le] at *; go_simp))
        · refine ⟨_, rfl, by kernel_rfl, fun K hK => ?_⟩
          gi_wp2_with (refine ⟨trivial, ?_⟩; gi_at_call 39; refine (callsIn_wide.2 (hcS _ e76)).mono ?_; rintro e wc80 ⟨v80, rfl, hcd80, x80⟩)
          have hcd80' := hcd80
          obtain ⟨av80, cv80, hav80, _, _⟩ := hcd80'
          rw [List.length_map] at hav80
          subst hav80
          have e80 := e76.trans x80
          have z80 := x80.size
          have hA80 := hA76.ext x80
          have hR80 := hR76.ext x80
          have hU80 := hU76.ext x80
          have hS80 := hcd80.clAt
          have z80b := e80.size
          refine hK _ _ (Or.inl (hSf _ e80)) ?_
          clear hK
          simp only [Act.put, List.getElem_toArray, List.getElem_cons_zero, List.getElem_cons_succ, List.setIfInBounds_toArray, List.set_cons_zero, List.set_cons_succ]
          refine wpS_br (rs := [4, 18]) (by kernel_rfl) (by simp) ?_
          intro i hi
          simp only [List.mem_cons, List.not_mem_nil, or_false] at hi
          rcases hi with rfl | rfl
          · refine ⟨_, rfl, by kernel_rfl, fun K hK => ?_⟩
            go_simp
            have x81 := Ext.alloc wc80 (.map #[] 0)
            have z81 : (wc80.alloc (.map #[] 0)).heap.size = wc80.heap.size + 1 := by simp
            have e81 := e80.trans x81
            have hA81 := hA80.ext x81
            have hR81 := hR80.ext x81
            have hU81 := hU80.ext x81
            have hS81 := hS80.ext x81
            have hO81 := SM.made wc80 9
            have z81b := e81.size
            refine hK _ _ (Or.inl (hSf _ e81)) ?_
            clear hK
            simp only [Act.put, List.getElem_toArray, List.getElem_cons_zero, List.getElem_cons_succ, List.setIfInBounds_toArray, List.set_cons_zero, List.set_cons_succ]
            refine wpS_one (i := 18) (by kernel_rfl) rfl (by kernel_rfl) (fun K hK => ?_)
            gi_wp2_with (refine ⟨trivial, ?_⟩; gi_at_call 40; refine (callsIn_wide.2 (cloneRecs_any _)).mono ?_; rintro e wc82 ⟨rfl, rfl⟩)
            have e82 := e81
            refine hK _ _ (Or.inl (hSf _ e82)) ?_
            clear hK
            simp only [Act.put, List.getElem_toArray, List.getElem_cons_zero, List.getElem_cons_succ, List.setIfInBounds_toArray, List.set_cons_zero, List.set_cons_succ]
            refine wpS_take (i := 25) (v := .agg #[.pointer (some ⟨T, 0, none⟩), .map (some wc80.heap.size), .slice av21 rl.length cv21, .map (some bR), .slice av76 us.length cv76, (.map (some bUn)), .slice av80 sl.length cv80, .slice none 0 0, .slice none 0 0, .slice none 0 0, (.map (some bC)), .map (some wc21.heap.size)]) (fun _ => trivial) (by kernel_rfl) rfl (by kernel_rfl) (by kernel_rfl) (by kernel_rfl) (by kernel_rfl) (by kernel_rfl) (fun _ _ _ h => h) (Or.inl ⟨by kernel_rfl, ?_⟩) (hSf _ e82) ?_
            · intro w' hSw; obtain ⟨s0, s1, s2, s3, s4, s5⟩ := hSw; go_simp
            simp only [Act.put, List.getElem_toArray, List.getElem_cons_zero, List.getElem_cons_succ, List.setIfInBounds_toArray, List.set_cons_zero, List.set_cons_succ]
            refine wpS_one (i := 26) (by kernel_rfl) rfl (by kernel_rfl) (fun K hK => ?_)
            go_simp
            refine hK _ _ (Or.inl (hSf _ (e82.trans (Ext.alloc _ _)))) ?_
            clear hK
            simp only [Act.put, List.getElem_toArray, List.getElem_cons_zero, List.getElem_cons_succ, List.setIfInBounds_toArray, List.set_cons_zero, List.set_cons_succ]
            refine wpS_take (i := 27) (v := .pointer (some ⟨(wc80.alloc (.map #[] 0)).heap.size, 0, none⟩)) (fun _ => trivial) (by kernel_rfl) rfl (by kernel_rfl) (by kernel_rfl) (by kernel_rfl) (by kernel_rfl) (by kernel_rfl) (fun _ _ _ h => h) (Or.inl ⟨by kernel_rfl, ?_⟩) (hSf _ (e82.trans (Ext.alloc _ _))) ?_
            · intro w' hSw; obtain ⟨s0, s1, s2, s3, s4, s5⟩ := hSw; go_simp
            simp only [Act.put, List.getElem_toArray, List.getElem_cons_zero, List.getElem_cons_succ, List.setIfInBounds_toArray, List.set_cons_zero, List.set_cons_succ]
            refine wpS_done (by kernel_rfl) ?_ _
            repeat (first | (exact newModel_f os rl us sl an A T bR Nr ao ar au ash aa co cr cu csh ca (.map (some bUn)) (.map (some bC)) w wB hn hnr hnu hns hna hwB hT hmr hW hos hRs hUs hSs han hur hnp hdest _ _ wB.drew.heap.size wc21.heap.size (wc21.alloc (.map #[] 0)).heap.size wc76.heap.size wc76.heap.size wc80.heap.size _ _ _ _ e82 hO81 hA81 hR81 hU81 hS81 (by omega) (by omega) (by omega) (by omega) (by omega) (by omega) (by omega) (by omega) (by omega) (by omega)) | go_values | go_skip | go_guarded | go_step | go_upon | (simp only [Int.not_lt, Int.not_le] at *; go_simp))
          · refine ⟨_, rfl, by kernel_rfl, fun K hK => ?_⟩
            gi_wp2_with (refine ⟨trivial, ?_⟩; gi_at_call 40; refine (callsIn_wide.2 (cloneRecs_any _)).mono ?_; rintro e wc83 ⟨rfl, rfl⟩)
            have e83 := e80
            refine hK _ _ (Or.inl (hSf _ e83)) ?_
            clear hK
            simp only [Act.put, List.getElem_toArray, List.getElem_cons_zero, List.getElem_cons_succ, List.setIfInBounds_toArray, List.set_cons_zero, List.set_cons_succ]
            refine wpS_one (i := 4) (by kernel_rfl) rfl (by kernel_rfl) (fun K hK => ?_)
            go_simp
            have x84 := Ext.alloc wc80 (.map #[] 0)
            have z84 : (wc80.alloc (.map #[] 0)).heap.size = wc80.heap.size + 1 := by simp
            have e84 := e83.trans x84
            have hA84 := hA80.ext x84
            have hR84 := hR80.ext x84
            have hU84 := hU80.ext x84
            have hS84 := hS80.ext x84
            have hO84 := SM.made wc80 9
            have z84b := e84.size
            refine hK _ _ (Or.inl (hSf _ e84)) ?_
            clear hK
            simp only [Act.put, List.getElem_toArray, List.getElem_cons_zero, List.getElem_cons_succ, List.setIfInBounds_toArray, List.set_cons_zero, List.set_cons_succ]
            refine wpS_take (i := 25) (v := .agg #[.pointer (some ⟨T, 0, none⟩), .map (some wc80.heap.size), .slice av21 rl.length cv21, .map (some bR), .slice av76 us.length cv76, (.map (some bUn)), .slice av80 sl.length cv80, .slice none 0 0, .slice none 0 0, .slice none 0 0, (.map (some bC)), .map (some wc21.heap.size)]) (fun _ => trivial) (by kernel_rfl) rfl (by kernel_rfl) (by kernel_rfl) (by kernel_rfl) (by kernel_rfl) (by kernel_rfl) (fun _ _ _ h => h) (Or.inl ⟨by kernel_rfl, ?_⟩) (hSf _ e84) ?_
            · intro w' hSw; obtain ⟨s0, s1, s2, s3, s4, s5⟩ := hSw; go_simp
            simp only [Act.put, List.getElem_toArray, List.getElem_cons_zero, List.getElem_cons_succ, List.setIfInBounds_toArray, List.set_cons_zero, List.set_cons_succ]
            refine wpS_one (i := 26) (by kernel_rfl) rfl (by kernel_rfl) (fun K hK => ?_)
            go_simp
            refine hK _ _ (Or.inl (hSf _ (e84.trans (Ext.alloc _ _)))) ?_
            clear hK
            simp only [Act.put, List.getElem_toArray, List.getElem_cons_zero, List.getElem_cons_succ, List.setIfInBounds_toArray, List.set_cons_zero, List.set_cons_succ]
            refine wpS_take (i := 27) (v := .pointer (some ⟨(wc80.alloc (.map #[] 0)).heap.size, 0, none⟩)) (fun _ => trivial) (by kernel_rfl) rfl (by kernel_rfl) (by kernel_rfl) (by kernel_rfl) (by kernel_rfl) (by kernel_rfl) (fun _ _ _ h => h) (Or.inl ⟨by kernel_rfl, ?_⟩) (hSf _ (e84.trans (Ext.alloc _ _))) ?_
            · intro w' hSw; obtain ⟨s0, s1, s2, s3, s4, s5⟩ := hSw; go_simp
            simp only [Act.put, List.getElem_toArray, List.getElem_cons_zero, List.getElem_cons_succ, List.setIfInBounds_toArray, List.set_cons_zero, List.set_cons_succ]
            refine wpS_done (by kernel_rfl) ?_ _
            repeat (first | (exact newModel_f os rl us sl an A T bR Nr ao ar au ash aa co cr cu csh ca (.map (some bUn)) (.map (some bC)) w wB hn hnr hnu hns hna hwB hT hmr hW hos hRs hUs hSs han hur hnp hdest _ _ wB.drew.heap.size wc21.heap.size (wc21.alloc (.map #[] 0)).heap.size wc76.heap.size wc76.heap.size wc80.heap.size _ _ _ _ e84 hO84 hA84 hR84 hU84 hS84 (by omega) (by omega) (by omega) (by omega) (by omega) (by omega) (by omega) (by omega) (by omega) (by omega)) | go_values | go_skip | go_guarded | go_step | go_upon | (simp only [Int.not_lt, Int.not_le] at *; go_simp))
  · refine ⟨_, rfl, by kernel_rfl, fun K hK => ?_⟩
    go_simp
    have x85 := Ext.alloc wB.drew (.map #[] 0)
    have z85 : (wB.drew.alloc (.map #[] 0)).heap.size = wB.drew.heap.size + 1 := by simp
    have e85 := hE0.trans x85
    have hA85 := SM.made wB.drew 4
    have z85b := e85.size
    refine hK _ _ (Or.inl (hSf _ e85)) ?_
    clear hK
    simp only [Act.put, List.getElem_toArray, List.getElem_cons_zero, List.getElem_cons_succ, List.setIfInBounds_toArray, List.set_cons_zero, List.set_cons_succ]
    refine wpS_br (rs := [4, 7]) (by kernel_rfl) (by simp) ?_
    intro i hi
    simp only [List.mem_cons, List.not_mem_nil, or_false] at hi
    rcases hi with rfl | rfl
    · refine ⟨_, rfl, by kernel_rfl, fun K hK => ?_⟩
      go_simp
      have x86 := Ext.alloc (wB.drew.alloc (.map #[] 0)) (.map #[] 0)
      have z86 : ((wB.drew.alloc (.map #[] 0)).alloc (.map #[] 0)).heap.size = (wB.drew.alloc (.map #[] 0)).heap.size + 1 := by simp
      have e86 := e85.trans x86
      have hA86 := hA85.ext x86
      have hO86 : SM ((wB.drew.alloc (.map #[] 0)).alloc (.map #[] 0)) 9 (wB.drew.heap.size + 1) 0 (fun _ => none) := by have h := SM.made (wB.drew.alloc (.map #[] 0)) 9; rw [show (wB.drew.alloc (.map #[] 0)).heap.size = (wB.drew.heap.size + 1) from by simp] at h; exact h
      have z86b := e86.size
      refine hK _ _ (Or.inl (hSf _ e86)) ?_
      clear hK
      simp only [Act.put, List.getElem_toArray, List.getElem_cons_zero, List.getElem_cons_succ, List.setIfInBounds_toArray, List.set_cons_zero, List.set_cons_succ]
      refine wpS_one (i := 7) (by kernel_rfl) rfl (by kernel_rfl) (fun K hK => ?_)
      gi_wp2_with (refine ⟨trivial, ?_⟩; gi_at_call 37; refine (callsIn_wide.2 (hcR _ e86)).mono ?_; rintro e wc87 ⟨v87, rfl, hcd87, x87⟩)
      have hcd87' := hcd87
      obtain ⟨av87, cv87, hav87, _, _⟩ := hcd87'
      rw [List.length_map] at hav87
      subst hav87
      have e87 := e86.trans x87
      have z87 := x87.size
      have hO87 := hO86.ext x87
      have hA87 := hA86.ext x87
      have hR87 := hcd87.clAt
      have z87b := e87.size
      refine hK _ _ (Or.inl (hSf _ e87)) ?_
      clear hK
      simp only [Act.put, List.getElem_toArray, List.getElem_cons_zero, List.getElem_cons_succ, List.setIfInBounds_toArray, List.set_cons_zero, List.set_cons_succ]
      refine wpS_one (i := 11) (by kernel_rfl) rfl (by kernel_rfl) (fun K hK => ?_)
      gi_wp2_with (refine ⟨trivial, ?_⟩; gi_at_call 38; refine (callsIn_wide.2 (hcU _ e87)).mono ?_; rintro e wc88 ⟨v88, rfl, hcd88, x88⟩)
      have hcd88' := hcd88
      obtain ⟨av88, cv88, hav88, _, _⟩ := hcd88'
      rw [List.length_map] at hav88
      subst hav88
      have e88 := e87.trans x88
      have z88 := x88.size
      have hO88 := hO87.ext x88
      have hA88 := hA87.ext x88
      have hR88 := hR87.ext x88
      have hU88 := hcd88.clAt
      have z88b := e88.size
      refine hK _ _ (Or.inl (hSf _ e88)) ?_
      clear hK
      simp only [Act.put, List.getElem_toArray, List.getElem_cons_zero, List.getElem_cons_succ, List.setIfInBounds_toArray, List.set_cons_zero, List.set_cons_succ]
      refine wpS_one (i := 15) (by kernel_rfl) rfl (by kernel_rfl) (fun K hK => ?_)
      gi_wp2_with (refine ⟨trivial, ?_⟩; gi_at_call 39; refine (callsIn_wide.2 (hcS _ e88)).mono ?_; rintro e wc89 ⟨v89, rfl, hcd89, x89⟩)
      have hcd89' := hcd89
      obtain ⟨av89, cv89, hav89, _, _⟩ := hcd89'
      rw [List.length_map] at hav89
      subst hav89
      have e89 := e88.trans x89
      have z89 := x89.size
      have hO89 := hO88.ext x89
      have hA89 := hA88.ext x89
      have hR89 := hR88.ext x89
      have hU89 := hU88.ext x89
      have hS89 := hcd89.clAt
      have z89b := e89.size
      refine hK _ _ (Or.inl (hSf _ e89)) ?_
      clear hK
      simp only [Act.put, List.getElem_toArray, List.getElem_cons_zero, List.getElem_cons_succ, List.setIfInBounds_toArray, List.set_cons_zero, List.set_cons_succ]
      refine wpS_one (i := 18) (by kernel_rfl) rfl (by kernel_rfl) (fun K hK => ?_)
      gi_wp2_with (refine ⟨trivial, ?_⟩; gi_at_call 40; refine (callsIn_wide.2 (cloneRecs_any _)).mono ?_; rintro e wc90 ⟨rfl, rfl⟩)
      have e90 := e89
      refine hK _ _ (Or.inl (hSf _ e90)) ?_
      clear hK
      simp only [Act.put, List.getElem_toArray, List.getElem_cons_zero, List.getElem_cons_succ, List.setIfInBounds_toArray, List.set_cons_zero, List.set_cons_succ]
      refine wpS_take (i := 25) (v := .agg #[.pointer (some ⟨T, 0, none⟩), .map (some (wB.drew.heap.size + 1)), .slice av87 rl.length cv87, .map (some bR), .slice av88 us.length cv88, (.map (some bUn)), .slice av89 sl.length cv89, .slice none 0 0, .slice none 0 0, .slice none 0 0, (.map (some bC)), .map (some wB.drew.heap.size)]) (fun _ => trivial) (by kernel_rfl) rfl (by kernel_rfl) (by kernel_rfl) (by kernel_rfl) (by kernel_rfl) (by kernel_rfl) (fun _ _ _ h => h) (Or.inl ⟨by kernel_rfl, ?_⟩) (hSf _ e90) ?_
      · intro w' hSw; obtain ⟨s0, s1, s2, s3, s4, s5⟩ := hSw; go_simp
      simp only [Act.put, List.getElem_toArray, List.getElem_cons_zero, List.getElem_cons_succ, List.setIfInBounds_toArray, List.set_cons_zero, List.set_cons_succ]
      refine wpS_one (i := 26) (by kernel_rfl) rfl (by kernel_rfl) (fun K hK => ?_)
      go_simp
      refine hK _ _ (Or.inl (hSf _ (e90.trans (Ext.alloc _ _)))) ?_
      clear hK
      simp only [Act.put, List.getElem_toArray, List.getElem_cons_zero, List.getElem_cons_succ, List.setIfInBounds_toArray, List.set_cons_zero, List.set_cons_succ]
      refine wpS_take (i := 27) (v := .pointer (some ⟨wc89.heap.size, 0, none⟩)) (fun _ => trivial) (by kernel_rfl) rfl (by kernel_rfl) (by kernel_rfl) (by kernel_rfl) (by kernel_rfl) (by kernel_rfl) (fun _ _ _ h => h) (Or.inl ⟨by kernel_rfl, ?_⟩) (hSf _ (e90.trans (Ext.alloc _ _))) ?_
      · intro w' hSw; obtain ⟨s0, s1, s2, s3, s4, s5⟩ := hSw; go_simp
      simp only [Act.put, List.getElem_toArray, List.getElem_cons_zero, List.getElem_cons_succ, List.setIfInBounds_toArray, List.set_cons_zero, List.set_cons_succ]
      refine wpS_done (by kernel_rfl) ?_ _
      repeat (first | (exact newModel_f os rl us sl an A T bR Nr ao ar au ash aa co cr cu csh ca (.map (some bUn)) (.map (some bC)) w wB hn hnr hnu hns hna hwB hT hmr hW hos hRs hUs hSs han hur hnp hdest _ _ ((wB.drew.alloc (.map #[] 0)).alloc (.map #[] 0)).heap.size wc87.heap.size wc87.heap.size wc88.heap.size wc88.heap.size wc89.heap.size _ _ _ _ e90 hO89 hA89 hR89 hU89 hS89 (by omega) (by omega) (by omega) (by omega) (by omega) (by omega) (by omega) (by omega) (by omega) (by omega)) | go_values | go_skip | go_guarded | go_step | go_upon | (simp only [Int.not_lt, Int.not_le] at *; go_simp))
    · refine ⟨_, rfl, by kernel_rfl, fun K hK => ?_⟩
      gi_wp2_with (refine ⟨trivial, ?_⟩; gi_at_call 37; refine (callsIn_wide.2 (hcR _ e85)).mono ?_; rintro e wc91 ⟨v91, rfl, hcd91, x91⟩)
      have hcd91' := hcd91
      obtain ⟨av91, cv91, hav91, _, _⟩ := hcd91'
      rw [List.length_map] at hav91
      subst hav91
      have e91 := e85.trans x91
      have z91 := x91.size
      have hA91 := hA85.ext x91
      have hR91 := hcd91.clAt
      have z91b := e91.size
      refine hK _ _ (Or.inl (hSf _ e91)) ?_
      clear hK
      simp only [Act.put, List.getElem_toArray, List.getElem_cons_zero, List.getElem_cons_succ, List.setIfInBounds_toArray, List.set_cons_zero, List.set_cons_succ]
      refine wpS_br (rs := [4, 11]) (by kernel_rfl) (by simp) ?_
      intro i hi
      simp only [List.mem_cons, List.not_mem_nil, or_false] at hi
      rcases hi with rfl | rfl
      · refine ⟨_, rfl, by kernel_rfl, fun K hK => ?_⟩
        go_simp
        have x92 := Ext.alloc wc91 (.map #[] 0)
        have z92 : (wc91.alloc (.map #[] 0)).heap.size = wc91.heap.size + 1 := by simp
        have e92 := e91.trans x92
        have hA92 := hA91.ext x92
        have hR92 := hR91.ext x92
        have hO92 := SM.made wc91 9
        have z92b := e92.size
        refine hK _ _ (Or.inl (hSf _ e92)) ?_
        clear hK
        simp only [Act.put, List.getElem_toArray, List.getElem_cons_zero, List.getElem_cons_succ, List.setIfInBounds_toArray, List.set_cons_zero, List.set_cons_succ]
        refine wpS_one (i := 11) (by kernel_rfl) rfl (by kernel_rfl) (fun K hK => ?_)
        gi_wp2_with (refine ⟨trivial, ?_⟩; gi_at_call 38; refine (callsIn_wide.2 (hcU _ e92)).mono ?_; rintro e wc93 ⟨v93, rfl, hcd93, x93⟩)
        have hcd93' := hcd93
        obtain ⟨av93, cv93, hav93, _, _⟩ := hcd93'
        rw [List.length_map] at hav93
        subst hav93
        have e93 := e92.trans x93
        have z93 := x93.size
        have hO93 := hO92.ext x93
        have hA93 := hA92.ext x93
        have hR93 := hR92.ext x93
        have hU93 := hcd93.clAt
        have z93b := e93.size
        refine hK _ _ (Or.inl (hSf _ e93)) ?_
        clear hK
        simp only [Act.put, List.getElem_toArray, List.getElem_cons_zero, List.getElem_cons_succ, List.setIfInBounds_toArray, List.set_cons_zero, List.set_cons_succ]
        refine wpS_one (i := 15) (by kernel_rfl) rfl (by kernel_rfl) (fun K hK => ?_)
        gi_wp2_with (refine ⟨trivial, ?_⟩; gi_at_call 39; refine (callsIn_wide.2 (hcS _ e93)).mono ?_; rintro e wc94 ⟨v94, rfl, hcd94, x94⟩)
        have hcd94' := hcd94
        obtain ⟨av94, cv94, hav94, _, _⟩ := hcd94'
        rw [List.length_map] at hav94
        subst hav94
        have e94 := e93.trans x94
        have z94 := x94.size
        have hO94 := hO93.ext x94
        have hA94 := hA93.ext x94
        have hR94 := hR93.ext x94
        have hU94 := hU93.ext x94
        have hS94 := hcd94.clAt
        have z94b := e94.size
        refine hK _ _ (Or.inl (hSf _ e94)) ?_
        clear hK
        simp only [Act.put, List.getElem_toArray, List.getElem_cons_zero, List.getElem_cons_succ, List.setIfInBounds_toArray, List.set_cons_zero, List.set_cons_succ]
        refine wpS_one (i := 18) (by kernel_rfl) rfl (by kernel_rfl) (fun K hK => ?_)
        gi_wp2_with (refine ⟨trivial, ?_⟩; gi_at_call 40; refine (callsIn_wide.2 (cloneRecs_any _)).mono ?_; rintro e wc95 ⟨rfl, rfl⟩)
        have e95 := e94
        refine hK _ _ (Or.inl (hSf _ e95)) ?_
        clear hK
        simp only [Act.put, List.getElem_toArray, List.getElem_cons_zero, List.getElem_cons_succ, List.setIfInBounds_toArray, List.set_cons_zero, List.set_cons_succ]
        refine wpS_take (i := 25) (v := .agg #[.pointer (some ⟨T, 0, none⟩), .map (some wc91.heap.size), .slice av91 rl.length cv91, .map (some bR), .slice av93 us.length cv93, (.map (some bUn)), .slice av94 sl.length cv94, .slice none 0 0, .slice none 0 0, .slice none 0 0, (.map (some bC)), .map (some wB.drew.heap.size)]) (fun _ => trivial) (by kernel_rfl) rfl (by kernel_rfl) (by kernel_rfl) (by kernel_rfl) (by kernel_rfl) (by kernel_rfl) (fun _ _ _ h => h) (Or.inl ⟨by kernel_rfl, ?_⟩) (hSf _ e95) ?_
        · intro w' hSw; obtain ⟨s0, s1, s2, s3, s4, s5⟩ := hSw; go_simp
        simp only [Act.put, List.getElem_toArray, List.getElem_cons_zero, List.getElem_cons_succ, List.setIfInBounds_toArray, List.set_cons_zero, List.set_cons_succ]
        refine wpS_one (i := 26) (by kernel_rfl) rfl (by kernel_rfl) (fun K hK => ?_)
        go_simp
        refine hK _ _ (Or.inl (hSf _ (e95.trans (Ext.alloc _ _)))) ?_
        clear hK
        simp only [Act.put, List.getElem_toArray, List.getElem_cons_zero, List.getElem_cons_succ, List.setIfInBounds_toArray, List.set_cons_zero, List.set_cons_succ]
        refine wpS_take (i := 27) (v := .pointer (some ⟨wc94.heap.size, 0, none⟩)) (fun _ => trivial) (by kernel_rfl) rfl (by kernel_rfl) (by kernel_rfl) (by kernel_rfl) (by kernel_rfl) (by kernel_rfl) (fun _ _ _ h => h) (Or.inl ⟨by kernel_rfl, ?_⟩) (hSf _ (e95.trans (Ext.alloc _ _))) ?_
        · intro w' hSw; obtain ⟨s0, s1, s2, s3, s4, s5⟩ := hSw; go_simp
        simp only [Act.put, List.getElem_toArray, List.getElem_cons_zero, List.getElem_cons_succ, List.setIfInBounds_toArray, List.set_cons_zero, List.set_cons_succ]
        refine wpS_done (by kernel_rfl) ?_ _
        repeat (first | (exact newModel_f os rl us sl an A T bR Nr ao ar au ash aa co cr cu csh ca (.map (some bUn)) (.map (some bC)) w wB hn hnr hnu hns hna hwB hT hmr hW hos hRs hUs hSs han hur hnp hdest _ _ (wB.drew.alloc (.map #[] 0)).heap.size wc91.heap.size (wc91.alloc (.map #[] 0)).heap.size wc93.heap.size wc93.heap.size wc94.heap.size _ _ _ _ e95 hO94 hA94 hR94 hU94 hS94 (by omega) (by omega) (by omega) (by omega) (by omega) (by omega) (by omega) (by omega) (by omega) (by omega)) | go_values | go_skip | go_guarded | go_step | go_upon | (simp only [Int.not_lt, Int.not_le] at *; go_simp))
      · refine ⟨_, rfl, by kernel_rfl, fun K hK => ?_⟩
        gi_wp2_with (refine ⟨trivial, ?_⟩; gi_at_call 38; refine (callsIn_wide.2 (hcU _ e91)).mono ?_; rintro e wc96 ⟨v96, rfl, hcd96, x96⟩)
        have hcd96' := hcd96
        obtain ⟨av96, cv96, hav96, _, _⟩ := hcd96'
        rw [List.length_map] at hav96
        subst hav96
        have e96 := e91.trans x96
        have z96 := x96.size
        have hA96 := hA91.ext x96
        have hR96 := hR91.ext x96
        have hU96 := hcd96.clAt
        have z96b := e96.size
        refine hK _ _ (Or.inl (hSf _ e96)) ?_
        clear hK
        simp only [Act.put, List.getElem_toArray, List.getElem_cons_zero, List.getElem_cons_succ, List.setIfInBounds_toArray, List.set_cons_zero, List.set_cons_succ]
        refine wpS_br (rs := [4, 15]) (by kernel_rfl) (by simp) ?_
        intro i hi
        simp only [List.mem_cons, List.not_mem_nil, or_false] at hi
        rcases hi with rfl | rfl
        · refine ⟨_, rfl, by kernel_rfl, fun K hK => ?_⟩
          go_simp
          have x97 := Ext.alloc wc96 (.map #[] 0)
          have z97 : (wc96.alloc (.map #[] 0)).heap.size = wc96.heap.size + 1 := by simp
          have e97 := e96.trans x97
          have hA97 := hA96.ext x97
          have hR97 := hR96.ext x97
          have hU97 := hU96.ext x97
          have hO97 := SM.made wc96 9
          have z97b := e97.size
          refine hK _ _ (Or.inl (hSf _ e97)) ?_
          clear hK
          simp only [Act.put, List.getElem_toArray, List.getElem_cons_zero, List.getElem_cons_succ, List.setIfInBounds_toArray, List.set_cons_zero, List.set_cons_succ]
          refine wpS_one (i := 15) (by kernel_rfl) rfl (by kernel_rfl) (fun K hK => ?_)
          gi_wp2_with (refine ⟨trivial, ?_⟩; gi_at_call 39; refine (callsIn_wide.2 (hcS _ e97)).mono ?_; rintro e wc98 ⟨v98, rfl, hcd98, x98⟩)
          have hcd98' := hcd98
          obtain ⟨av98, cv98, hav98, _, _⟩ := hcd98'
          rw [List.length_map] at hav98
          subst hav98
          have e98 := e97.trans x98
          have z98 := x98.size
          have hO98 := hO97.ext x98
          have hA98 := hA97.ext x98
          have hR98 := hR97.ext x98
          have hU98 := hU97.ext x98
          have hS98 := hcd98.clAt
          have z98b := e98.size
          refine hK _ _ (Or.inl (hSf _ e98)) ?_
          clear hK
          simp only [Act.put, List.getElem_toArray, List.getElem_cons_zero, List.getElem_cons_succ, List.setIfInBounds_toArray, List.set_cons_zero, List.set_cons_succ]
          refine wpS_one (i := 18) (by kernel_rfl) rfl (by kernel_rfl) (fun K hK => ?_)
          gi_wp2_with (refine ⟨trivial, ?_⟩; gi_at_call 40; refine (callsIn_wide.2 (cloneRecs_any _)).mono ?_; rintro e wc99 ⟨rfl, rfl⟩)
          have e99 := e98
          refine hK _ _ (Or.inl (hSf _ e99)) ?_
          clear hK
          simp only [Act.put, List.getElem_toArray, List.getElem_cons_zero, List.getElem_cons_succ, List.setIfInBounds_toArray, List.set_cons_zero, List.set_cons_succ]
          refine wpS_take (i := 25) (v := .agg #[.pointer (some ⟨T, 0, none⟩), .map (some wc96.heap.size), .slice av91 rl.length cv91, .map (some bR), .slice av96 us.length cv96, (.map (some bUn)), .slice av98 sl.length cv98, .slice none 0 0, .slice none 0 0, .slice none 0 0, (.map (some bC)), .map (some wB.drew.heap.size)]) (fun _ => trivial) (by kernel_rfl) rfl (by kernel_rfl) (by kernel_rfl) (by kernel_rfl) (by kernel_rfl) (by kernel_rfl) (fun _ _ _ h => h) (Or.inl ⟨by kernel_rfl, ?_⟩) (hSf _ e99) ?_
          · intro w' hSw; obtain ⟨s0, s1, s2, s3, s4, s5⟩ := hSw; go_simp
          simp only [Act.put, List.getElem_toArray, List.getElem_cons_zero, List.getElem_cons_succ, List.setIfInBounds_toArray, List.set_cons_zero, List.set_cons_succ]
          refine wpS_one (i := 26) (by kernel_rfl) rfl (by kernel_rfl) (fun K hK => ?_)
          go_simp
          refine hK _ _ (Or.inl (hSf _ (e99.trans (Ext.alloc _ _)))) ?_
          clear hK
          simp only [Act.put, List.getElem_toArray, List.getElem_cons_zero, List.getElem_cons_succ, List.setIfInBounds_toArray, List.set_cons_zero, List.set_cons_succ]
          refine wpS_take (i := 27) (v := .pointer (some ⟨wc98.heap.size, 0, none⟩)) (fun _ => trivial) (by kernel_rfl) rfl (by kernel_rfl) (by kernel_rfl) (by kernel_rfl) (by kernel_rfl) (by kernel_rfl) (fun _ _ _ h => h) (Or.inl ⟨by kernel_rfl, ?_⟩) (hSf _ (e99.trans (Ext.alloc _ _))) ?_
          · intro w' hSw; obtain ⟨s0, s1, s2, s3, s4, s5⟩ := hSw; go_simp
          simp only [Act.put, List.getElem_toArray, List.getElem_cons_zero, List.getElem_cons_succ, List.setIfInBounds_toArray, List.set_cons_zero, List.set_cons_succ]
          refine wpS_done (by kernel_rfl) ?_ _
          repeat (first | (exact newModel_f os rl us sl an A T bR Nr ao ar au ash aa co cr cu csh ca (.map (some bUn)) (.map (some bC)) w wB hn hnr hnu hns hna hwB hT hmr hW hos hRs hUs hSs han hur hnp hdest _ _ (wB.drew.alloc (.map #[] 0)).heap.size wc91.heap.size wc91.heap.size wc96.heap.size (wc96.alloc (.map #[] 0)).heap.size wc98.heap.size _ _ _ _ e99 hO98 hA98 hR98 hU98 hS98 (by omega) (by omega) (by omega) (by omega) (by omega) (by omega) (by omega) (by omega) (by omega) (by omega)) | go_values | go_skip | go_guarded | go_step | go_upon | (simp only [Int.not_lt, Int.not_le] at *; go_simp))
        · refine ⟨_, rfl, by kernel_rfl, fun K hK => ?_⟩
          gi_wp2_with (refine ⟨trivial, ?_⟩; gi_at_call 39; refine (callsIn_wide.2 (hcS _ e96)).mono ?_; rintro e wc100 ⟨v100, rfl, hcd100, x100⟩)
          have hcd100' := hcd100
          obtain ⟨av100, cv100, hav100, _, _⟩ := hcd100'
          rw [List.length_map] at hav100
          subst hav100
          have e100 := e96.trans x100
          have z100 := x100.size
          have hA100 := hA96.ext x100
          have hR100 := hR96.ext x100
          have hU100 := hU96.ext x100
          have hS100 := hcd100.clAt
          have z100b := e100.size
          refine hK _ _ (Or.inl (hSf _ e100)) ?_
          clear hK
          simp only [Act.put, List.getElem_toArray, List.getElem_cons_zero, List.getElem_cons_succ, List.setIfInBounds_toArray, List.set_cons_zero, List.set_cons_succ]
          refine wpS_br (rs := [4, 18]) (by kernel_rfl) (by simp) ?_
          intro i hi
          simp only [List.mem_cons, List.not_mem_nil, or_false] at hi
          rcases hi with rfl | rfl
          · refine ⟨_, rfl, by kernel_rfl, fun K hK => ?_⟩
            go_simp
            have x101 := Ext.alloc wc100 (.map #[] 0)
            have z101 : (wc100.alloc (.map #[] 0)).heap.size = wc100.heap.size + 1 := by simp
            have e101 := e100.trans x101
            have hA101 := hA100.ext x101
            have hR101 := hR100.ext x101
            have hU101 := hU100.ext x101
            have hS101 := hS100.ext x101
            have hO101 := SM.made wc100 9
            have z101b := e101.size
            refine hK _ _ (Or.inl (hSf _ e101)) ?_
            clear hK
            simp only [Act.put, List.getElem_toArray, List.getElem_cons_zero, List.getElem_cons_succ, List.setIfInBounds_toArray, List.set_cons_zero, List.set_cons_succ]
            refine wpS_one (i := 18) (by kernel_rfl) rfl (by kernel_rfl) (fun K hK => ?_)
            gi_wp2_with (refine ⟨trivial, ?_⟩; gi_at_call 40; refine (callsIn_wide.2 (cloneRecs_any _)).mono ?_; rintro e wc102 ⟨rfl, rfl⟩)
            have e102 := e101
            refine hK _ _ (Or.inl (hSf _ e102)) ?_
            clear hK
            simp only [Act.put, List.getElem_toArray, List.getElem_cons_zero, List.getElem_cons_succ, List.setIfInBounds_toArray, List.set_cons_zero, List.set_cons_succ]
            refine wpS_take (i := 25) (v := .agg #[.pointer (some ⟨T, 0, none⟩), .map (some wc100.heap.size), .slice av91 rl.length cv91, .map (some bR), .slice av96 us.length cv96, (.map (some bUn)), .slice av100 sl.length cv100, .slice none 0 0, .slice none 0 0, .slice none 0 0, (.map (some bC)), .map (some wB.drew.heap.size)]) (fun _ => trivial) (by kernel_rfl) rfl (by kernel_rfl) (by kernel_rfl) (by kernel_rfl) (by kernel_rfl) (by kernel_rfl) (fun _ _ _ h => h) (Or.inl ⟨by kernel_rfl, ?_⟩) (hSf _ e102) ?_
            · intro w' hSw; obtain ⟨s0, s1, s2, s3, s4, s5⟩ := hSw; go_simp
            simp only [Act.put, List.getElem_toArray, List.getElem_cons_zero, List.getElem_cons_succ, List.setIfInBounds_toArray, List.set_cons_zero, List.set_cons_succ]
            refine wpS_one (i := 26) (by kernel_rfl) rfl (by kernel_rfl) (fun K hK => ?_)
            go_simp
            refine hK _ _ (Or.inl (hSf _ (e102.trans (Ext.alloc _ _)))) ?_
            clear hK
            simp only [Act.put, List.getElem_toArray, List.getElem_cons_zero, List.getElem_cons_succ, List.setIfInBounds_toArray, List.set_cons_zero, List.set_cons_succ]
            refine wpS_take (i := 27) (v := .pointer (some ⟨(wc100.alloc (.map #[] 0)).heap.size, 0, none⟩)) (fun _ => trivial) (by kernel_rfl) rfl (by kernel_rfl) (by kernel_rfl) (by kernel_rfl) (by kernel_rfl) (by kernel_rfl) (fun _ _ _ h => h) (Or.inl ⟨by kernel_rfl, ?_⟩) (hSf _ (e102.trans (Ext.alloc _ _))) ?_
            · intro w' hSw; obtain ⟨s0, s1, s2, s3, s4, s5⟩ := hSw; go_simp
            simp only [Act.put, List.getElem_toArray, List.getElem_cons_zero, List.getElem_cons_succ, List.setIfInBounds_toArray, List.set_cons_zero, List.set_cons_succ]
            refine wpS_done (by kernel_rfl) ?_ _
            repeat (first | (exact newModel_f os rl us sl an A T bR Nr ao ar au ash aa co cr cu csh ca (.map (some bUn)) (.map (some bC)) w wB hn hnr hnu hns hna hwB hT hmr hW hos hRs hUs hSs han hur hnp hdest _ _ (wB.drew.alloc (.map #[] 0)).heap.size wc91.heap.size wc91.heap.size wc96.heap.size wc96.heap.size wc100.heap.size _ _ _ _ e102 hO101 hA101 hR101 hU101 hS101 (by omega) (by omega) (by omega) (by omega) (by omega) (by omega) (by omega) (by omega) (by omega) (by omega)) | go_values | go_skip | go_guarded | go_step | go_upon | (simp only [Int.not_lt, Int.not_le] at *; go_simp))
          · refine ⟨_, rfl, by kernel_rfl, fun K hK => ?_⟩
            gi_wp2_with (refine ⟨trivial, ?_⟩; gi_at_call 40; refine (callsIn_wide.2 (cloneRecs_any _)).mono ?_; rintro e wc103 ⟨rfl, rfl⟩)
            have e103 := e100
            refine hK _ _ (Or.inl (hSf _ e103)) ?_
            clear hK
            simp only [Act.put, List.getElem_toArray, List.getElem_cons_zero, List.getElem_cons_succ, List.setIfInBounds_toArray, List.set_cons_zero, List.set_cons_succ]
            refine wpS_one (i := 4) (by kernel_rfl) rfl (by kernel_rfl) (fun K hK => ?_)
            go_simp
            have x104 := Ext.alloc wc100 (.map #[] 0)
            have z104 : (wc100.alloc (.map #[] 0)).heap.size = wc100.heap.size + 1 := by simp
            have e104 := e103.trans x104
            have hA104 := hA100.ext x104
            have hR104 := hR100.ext x104
            have hU104 := hU100.ext x104
            have hS104 := hS100.ext x104
            have hO104 := SM.made wc100 9
            have z104b := e104.size
            refine hK _ _ (Or.inl (hSf _ e104)) ?_
            clear hK
            simp only [Act.put, List.getElem_toArray, List.getElem_cons_zero, List.getElem_cons_succ, List.setIfInBounds_toArray, List.set_cons_zero, List.set_cons_succ]
            refine wpS_take (i := 25) (v := .agg #[.pointer (some ⟨T, 0, none⟩), .map (some wc100.heap.size), .slice av91 rl.length cv91, .map (some bR), .slice av96 us.length cv96, (.map (some bUn)), .slice av100 sl.length cv100, .slice none 0 0, .slice none 0 0, .slice none 0 0, (.map (some bC)), .map (some wB.drew.heap.size)]) (fun _ => trivial) (by kernel_rfl) rfl (by kernel_rfl) (by kernel_rfl) (by kernel_rfl) (by kernel_rfl) (by kernel_rfl) (fun _ _ _ h => h) (Or.inl ⟨by kernel_rfl, ?_⟩) (hSf _ e104) ?_
            · intro w' hSw; obtain ⟨s0, s1, s2, s3, s4, s5⟩ := hSw; go_simp
            simp only [Act.put, List.getElem_toArray, List.getElem_cons_zero, List.getElem_cons_succ, List.setIfInBounds_toArray, List.set_cons_zero, List.set_cons_succ]
            refine wpS_one (i := 26) (by kernel_rfl) rfl (by kernel_rfl) (fun K hK => ?_)
            go_simp
            refine hK _ _ (Or.inl (hSf _ (e104.trans (Ext.alloc _ _)))) ?_
            clear hK
            simp only [Act.put, List.getElem_toArray, List.getElem_cons_zero, List.getElem_cons_succ, List.setIfInBounds_toArray, List.set_cons_zero, List.set_cons_succ]
            refine wpS_take (i := 27) (v := .pointer (some ⟨(wc100.alloc (.map #[] 0)).heap.size, 0, none⟩)) (fun _ => trivial) (by kernel_rfl) rfl (by kernel_rfl) (by kernel_rfl) (by kernel_rfl) (by kernel_rfl) (by kernel_rfl) (fun _ _ _ h => h) (Or.inl ⟨by kernel_rfl, ?_⟩) (hSf _ (e104.trans (Ext.alloc _ _))) ?_
            · intro w' hSw; obtain ⟨s0, s1, s2, s3, s4, s5⟩ := hSw; go_simp
            simp only [Act.put, List.getElem_toArray, List.getElem_cons_zero, List.getElem_cons_succ, List.setIfInBounds_toArray, List.set_cons_zero, List.set_cons_succ]
            refine wpS_done (by kernel_rfl) ?_ _
            repeat (first | (exact newModel_f os rl us sl an A T bR Nr ao ar au ash aa co cr cu csh ca (.map (some bUn)) (.map (some bC)) w wB hn hnr hnu hns hna hwB hT hmr hW hos hRs hUs hSs han hur hnp hdest _ _ (wB.drew.alloc (.map #[] 0)).heap.size wc91.heap.size wc91.heap.size wc96.heap.size wc96.heap.size wc100.heap.size _ _ _ _ e104 hO104 hA104 hR104 hU104 hS104 (by omega) (by omega) (by omega) (by omega) (by omega) (by omega) (by omega) (by omega) (by omega) (by omega)) | go_values | go_skip | go_guarded | go_step | go_upon | (simp only [Int.not_lt, Int.not_le] at *; go_simp))

end Go.Proofs.Qxb6609292a
