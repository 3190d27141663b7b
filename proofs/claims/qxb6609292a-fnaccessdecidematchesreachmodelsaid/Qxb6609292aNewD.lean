/-
  WALKS for seat b6609292a: NewModel, the names of organizations.
-/
import Derived.Test.Qxb6609292aNewC
set_option linter.unusedVariables false
set_option linter.unusedSimpArgs false
namespace Go.Proofs.Qxb6609292a
open Go.RowKit Go.Maps
attribute [local go_sem] Oper.semAt_some

theorem wpIn_put {F : Fence} {N : Nat} {o : Oper} {a : Act} {w : World} {K : Act → World → Prop} {Q : Exit → Act → World → Prop} (hF : ∀ f, F.fn f) {T E : TypeId} (m x v : Operand) (ho : o.op = .mapUpdate T m x v) (hT : Try.prog.underlying T = some (.map 9 E)) (b n : Nat) (f : ByteArray → Option Value)
    (hm : a.eval m = .map (some b)) (h : SM w E b n f) (hn : n < maxLen) (s : ByteArray) (hx : a.eval x = .string s) (hs : okStr s) (val : Value) (hv : a.eval v = val) {d : DataW Unit} (hval : plainElem Try.prog E val = some (d, []))
    (hK : ∀ w', SM w' E b (n + 1) (upd f s val) → w.grownBy w' (some b) → K (a.put o.dst undef) w') : Oper.wpIn F N Try.prog o a w K Q := by
  obtain ⟨w', hrun, r1, r2⟩ := h.put hT hn s hs val hval
  unfold Oper.wpIn
  refine ⟨fun f _ => hF f, ?_⟩
  rw [semAt_any F.round a.eval o (by simp [notDefer, ho])]
  simp [execOp, ho, hm, hx, hv, hrun, Result.andThen]
  exact hK w' r1 r2
set_option maxRecDepth 1000000 in
set_option maxHeartbeats 6400000 in
theorem newModel_t12 {x0 x2 x3 x5 x6 x7 x8 x9 x10 x11 x13 x14 x15 x16 x17 x18 x19 x20 x21 x22 x23 x24 x25 x26 x27 x28 x29 x30 x31 x32 x33 x34 x35 x36 x37 x38 x39 x40 x41 x42 x43 x44 x45 x46 x47 x48 x49 x50 x51 x52 x53 x54 x55 x56 x57 x58 x59 x60 x61 x62 x63 x64 x65 x66 x67 x68 x69 x70 x71 x72 x73 x74 x75 x76 x77 x78 x79 x80 x81 x82 x83 x84 x85 x86 x87 x88 x89 x90 x91 x92 x93 x94 x95 x96 x97 x98 x99 x100 x101 x102 x103 x104 x105 x106 x107 x108 x109 x110 x111 x112 x113 x114 x115 x116 x117 x118 x119 x120 x121 x122 x123 x124 x125 x126 x127 x128 x129 x130 x131 x132 x133 x134 x135 x136 x137 x138 x139 x140 x141 x142 x143 x144 x145 x146 x147 x148 x149 x150 x151 x152 x153 x154 x155 x156 x157 x158 x159 x160 x161 x162 x163 x164 x165 x166 x167 x168 x169 x170 x171 x172 x173 x174 x175 x176 x177 x178 x179 x180 x181 x182 x183 x184 x185 x186 x187 x188 x189 x190 x191 x192 x193 x194 x195 x196 x197 x198 x199 x200 x201 x202 x203 x204 x205 x206 x207 x208 x209 x210 x211 x212 x213 x214 : Value} (os : List Org) (rs rl : List Role) (ss sl : List Share) (an : List ByteArray) (A T m bR bA Nr : Nat) (aa : Option Addr) (ca : Nat) (vO vR0 vU0 vS0 : Value) (w wB wr0 : World)
    (hn : os.length ≤ 1048576) (hns : sl.length ≤ 1048576) (hna : an.length ≤ 1048576) (hwB : Ext w wB) (he : Ext wB wr0) (hT : TreeAt wB T os) (hmr : SM wB 3 bR Nr (posF (rs.map Role.id) (rs.map Role.id).length)) (hW : Blk wB A [vO, vR0, vU0, vS0, .slice none 0 0, .slice aa an.length ca]) (han : StrsAt wB (.slice aa an.length ca) an)
    (hrc : Hid (rl.map Role.core = rs.map Role.core)) (hsc : Hid (sl.map Share.core = ss.map Share.core)) (mB : wB.heap.size ≤ m) (aB : wB.heap.size ≤ bA) (nmA : m ≠ bA) (us : List User) (bU vc vd : Value) (bOn co : Nat) (ao : Option Addr) (gS gU gR : Nat) (aS aU aR : Option Addr) (cS cU cR : Nat) (hB : Blk wr0 m [.pointer (some ⟨T, 0, none⟩), .map (some bOn), .slice aR rl.length cR, .map (some bR), .slice aU us.length cU, bU, .slice aS sl.length cS, .slice none 0 0, .slice none 0 0, vc, vd, .map (some bA)]) (hO : SM wr0 9 bOn 0 (fun _ => none)) (oB : wB.heap.size ≤ bOn) (noA : bOn ≠ bA) (hvO : vO = .slice ao os.length co) (hos : OrgsAt wB (.slice ao os.length co) os)
    (hCB : CB wr0 gS 5 (sl.map Share.row)) (haS : sl ≠ [] → aS = some ⟨gS, 0, none⟩) (hcS : sl.length ≤ cS) (hSo : ∀ s ∈ sl, ShOk wB gS m s) (hA : SM wr0 4 bA 0 (setF [])) (gB : wB.heap.size ≤ gS) (ngm : gS ≠ m) (hdest : ∀ s ∈ sl, s.dest ∈ os.map Org.id) (hnp : ∀ s ∈ sl, s.perms.length ≤ 1048576)
    (hCU : CB wr0 gU 2 (us.map User.row)) (haU : us ≠ [] → aU = some ⟨gU, 0, none⟩) (hnu : us.length ≤ 1048576) (hUo : ∀ u ∈ us, StrsAt wB u.rv u.roles ∧ u.roles.length ≤ 1048576) (uB : wB.heap.size ≤ gU) (num : gU ≠ m) (nus : gU ≠ gS)
    (hCR : CB wr0 gR 4 (rl.map Role.row)) (haR : rl ≠ [] → aR = some ⟨gR, 0, none⟩) (hcR : rl.length ≤ cR) (hnr : rl.length ≤ 1048576) (hRo : ∀ r ∈ rl, RoOk wB r) (rB : wB.heap.size ≤ gR) (nrm : gR ≠ m) (nrs : gR ≠ gS) (nru : gR ≠ gU) :
    Code.wp Try.prog (dropSeq 12 (Try.f10.body.getD .skip)) (bodyPost Try.prog Try.f10 (NewPost os rs ss an w)) ⟨#[x0, .pointer (some ⟨A, 0, none⟩), x2, x3, .pointer (some ⟨T, 0, none⟩), x5, x6, x7, x8, x9, x10, x11, .pointer (some ⟨m, 0, none⟩), x13, x14, x15, x16, x17, x18, x19, x20, x21, x22, x23, x24, x25, x26, x27, x28, x29, x30, x31, x32, x33, x34, x35, x36, x37, x38, x39, x40, x41, x42, x43, x44, x45, x46, x47, x48, x49, x50, x51, x52, x53, x54, x55, x56, x57, x58, x59, x60, x61, x62, x63, x64, x65, x66, x67, x68, x69, x70, x71, x72, x73, x74, x75, x76, x77, x78, x79, x80, x81, x82, x83, x84, x85, x86, x87, x88, x89, x90, x91, x92, x93, x94, x95, x96, x97, x98, x99, x100, x101, x102, x103, x104, x105, x106, x107, x108, x109, x110, x111, x112, x113, x114, x115, x116, x117, x118, x119, x120, x121, x122, x123, x124, x125, x126, x127, x128, x129, x130, x131, x132, x133, x134, x135, x136, x137, x138, x139, x140, x141, x142, x143, x144, x145, x146, x147, x148, x149, x150, x151, x152, x153, x154, x155, x156, x157, x158, x159, x160, x161, x162, x163, x164, x165, x166, x167, x168, x169, x170, x171, x172, x173, x174, x175, x176, x177, x178, x179, x180, x181, x182, x183, x184, x185, x186, x187, x188, x189, x190, x191, x192, x193, x194, x195, x196, x197, x198, x199, x200, x201, x202, x203, x204, x205, x206, x207, x208, x209, x210, x211, x212, x213, x214], []⟩ wr0 := by
  conv => arg 2; whnf
  have cW0 : wr0.cell? ⟨A, 0, none⟩ = some (.slice ao os.length co) := by rw [← hvO]; exact (hW.ext he).cell rfl
  go_wp2_with fail
  go_loopw [103] (fun j wr => ∃ (k : Nat) (f : ByteArray → Option Value), j = .int .i64 k ∧ k ≤ os.length ∧ SM wr 9 bOn k f ∧ CB wr gR 4 (rl.map Role.row) ∧ CB wr gU 2 (us.map User.row) ∧ CB wr gS 5 (sl.map Share.row) ∧ Blk wr m [.pointer (some ⟨T, 0, none⟩), .map (some bOn), .slice aR rl.length cR, .map (some bR), .slice aU us.length cU, bU, .slice aS sl.length cS, .slice none 0 0, .slice none 0 0, vc, vd, .map (some bA)] ∧ SM wr 4 bA 0 (setF []) ∧ Ext wB wr) (fun i _ => os.length - (intOf i).toNat)
  case atStart => exact ⟨0, _, rfl, Nat.zero_le _, hO, hCR, hCU, hCB, hB, hA, he⟩
  case round =>
    clear hCB hB hA he cW0 hCU hCR hO
    obtain ⟨k, f, rfl, hk, hO, hCR, hCU, hCB, hB, hA, he⟩ := hrel
    by_cases hlt : k < os.length
    · obtain ⟨o, ho⟩ := get_at os k hlt
      obtain ⟨bb, oo, rfl, z0, z1, z2, ok⟩ := hos.at ho
      have y0 := he.cell z0
      have y1 := he.cell z1
      have y2 := he.cell z2
      have hxa := Ext.alloc wr (.cells #[.string o.id, .string o.name, .string o.parent] 118)
      have hbx := Blk.alloc wr [.string o.id, .string o.name, .string o.parent] 118
      have hxd := hxa.drawn
      have hS1 : (fun w' : World => w'.cell? ⟨m, 1, none⟩ = some (.map (some bOn)) ∧ w'.cell? ⟨wr.heap.size, 0, none⟩ = some (.string o.id) ∧ w'.cell? ⟨wr.heap.size, 1, none⟩ = some (.string o.name)) (wr.alloc (.cells #[.string o.id, .string o.name, .string o.parent] 118)).drew := ⟨(hB.ext hxd).cell rfl, hbx.cell rfl, hbx.cell rfl⟩
      have hOl := hO.lt
      clear ho z0 z1 z2
      go_upto_region 23 with fail
      refine (wpIn_wide (n := 5)).1 ?_
      refine wpIn_region_S (fun w' => w'.cell? ⟨m, 1, none⟩ = some (.map (some bOn)) ∧ w'.cell? ⟨wr.heap.size, 0, none⟩ = some (.string o.id) ∧ w'.cell? ⟨wr.heap.size, 1, none⟩ = some (.string o.name)) 8 (by kernel_rfl) ?_
      change wpS _ _ _ _ _ _ _ 9 #[false, false, false, false, false, false, false, false, false] _ _
      refine wpS_take (i := 0) (v := .pointer (some ⟨m, 0, none⟩)) (fun _ => trivial) (by kernel_rfl) rfl (by kernel_rfl) (by kernel_rfl) (by kernel_rfl) (by kernel_rfl) (by kernel_rfl) (fun _ _ _ h => h) (Or.inl ⟨by kernel_rfl, ?_⟩) hS1 ?_
      · intro w' hSw; obtain ⟨s0, s1, s2⟩ := hSw; go_simp
      simp only [Act.put, List.getElem_toArray, List.getElem_cons_zero, List.getElem_cons_succ, List.setIfInBounds_toArray, List.set_cons_zero, List.set_cons_succ]
      refine wpS_take (i := 1) (v := .pointer (some ⟨m, 0, none⟩)) (fun _ => trivial) (by kernel_rfl) rfl (by kernel_rfl) (by kernel_rfl) (by kernel_rfl) (by kernel_rfl) (by kernel_rfl) (fun _ _ _ h => h) (Or.inl ⟨by kernel_rfl, ?_⟩) hS1 ?_
      · intro w' hSw; obtain ⟨s0, s1, s2⟩ := hSw; go_simp
      simp only [Act.put, List.getElem_toArray, List.getElem_cons_zero, List.getElem_cons_succ, List.setIfInBounds_toArray, List.set_cons_zero, List.set_cons_succ]
      refine wpS_take (i := 2) (v := .pointer (some ⟨m, 1, none⟩)) (fun _ => trivial) (by kernel_rfl) rfl (by kernel_rfl) (by kernel_rfl) (by kernel_rfl) (by kernel_rfl) (by kernel_rfl) (fun _ _ _ h => h) (Or.inl ⟨by kernel_rfl, ?_⟩) hS1 ?_
      · intro w' hSw; obtain ⟨s0, s1, s2⟩ := hSw; go_simp
      simp only [Act.put, List.getElem_toArray, List.getElem_cons_zero, List.getElem_cons_succ, List.setIfInBounds_toArray, List.set_cons_zero, List.set_cons_succ]
      refine wpS_take (i := 3) (v := .map (some bOn)) (fun _ => trivial) (by kernel_rfl) rfl (by kernel_rfl) (by kernel_rfl) (by kernel_rfl) (by kernel_rfl) (by kernel_rfl) (fun _ _ _ h => h) (Or.inl ⟨by kernel_rfl, ?_⟩) hS1 ?_
      · intro w' hSw; obtain ⟨s0, s1, s2⟩ := hSw; go_simp
      simp only [Act.put, List.getElem_toArray, List.getElem_cons_zero, List.getElem_cons_succ, List.setIfInBounds_toArray, List.set_cons_zero, List.set_cons_succ]
      refine wpS_take (i := 4) (v := .pointer (some ⟨wr.heap.size, 0, none⟩)) (fun _ => trivial) (by kernel_rfl) rfl (by kernel_rfl) (by kernel_rfl) (by kernel_rfl) (by kernel_rfl) (by kernel_rfl) (fun _ _ _ h => h) (Or.inl ⟨by kernel_rfl, ?_⟩) hS1 ?_
      · intro w' hSw; obtain ⟨s0, s1, s2⟩ := hSw; go_simp
      simp only [Act.put, List.getElem_toArray, List.getElem_cons_zero, List.getElem_cons_succ, List.setIfInBounds_toArray, List.set_cons_zero, List.set_cons_succ]
      refine wpS_take (i := 5) (v := .string o.id) (fun _ => trivial) (by kernel_rfl) rfl (by kernel_rfl) (by kernel_rfl) (by kernel_rfl) (by kernel_rfl) (by kernel_rfl) (fun _ _ _ h => h) (Or.inl ⟨by kernel_rfl, ?_⟩) hS1 ?_
      · intro w' hSw; obtain ⟨s0, s1, s2⟩ := hSw; go_simp
      simp only [Act.put, List.getElem_toArray, List.getElem_cons_zero, List.getElem_cons_succ, List.setIfInBounds_toArray, List.set_cons_zero, List.set_cons_succ]
      refine wpS_take (i := 6) (v := .pointer (some ⟨wr.heap.size, 1, none⟩)) (fun _ => trivial) (by kernel_rfl) rfl (by kernel_rfl) (by kernel_rfl) (by kernel_rfl) (by kernel_rfl) (by kernel_rfl) (fun _ _ _ h => h) (Or.inl ⟨by kernel_rfl, ?_⟩) hS1 ?_
      · intro w' hSw; obtain ⟨s0, s1, s2⟩ := hSw; go_simp
      simp only [Act.put, List.getElem_toArray, List.getElem_cons_zero, List.getElem_cons_succ, List.setIfInBounds_toArray, List.set_cons_zero, List.set_cons_succ]
      refine wpS_take (i := 7) (v := .string o.name) (fun _ => trivial) (by kernel_rfl) rfl (by kernel_rfl) (by kernel_rfl) (by kernel_rfl) (by kernel_rfl) (by kernel_rfl) (fun _ _ _ h => h) (Or.inl ⟨by kernel_rfl, ?_⟩) hS1 ?_
      · intro w' hSw; obtain ⟨s0, s1, s2⟩ := hSw; go_simp
      simp only [Act.put, List.getElem_toArray, List.getElem_cons_zero, List.getElem_cons_succ, List.setIfInBounds_toArray, List.set_cons_zero, List.set_cons_succ]
      refine wpS_one (i := 8) (by kernel_rfl) rfl (by kernel_rfl) (fun K hK => ?_)
      refine wpIn_put (fun _ => trivial) (.tmp 110) (.tmp 112) (.tmp 114) (by rfl) Try.underlying109 bOn k f (by rfl) (hO.ext hxd) (by unfold maxLen; omega) o.id (by rfl) ok.1 (.string o.name) (by rfl) (plain9 o.name ok.2.1) ?_
      intro w2 hO2 hg2
      refine hK _ _ (Or.inr (by kernel_rfl)) ?_
      clear hK
      simp only [Act.put, List.getElem_toArray, List.getElem_cons_zero, List.getElem_cons_succ, List.setIfInBounds_toArray, List.set_cons_zero, List.set_cons_succ]
      refine wpS_done (by kernel_rfl) ?_ _
      have hCk : ∀ {g c : Nat} {rows : List (List Value)}, CB wr g c rows → CB w2 g c rows := fun h hn => by
        obtain ⟨cur, h1, h2⟩ := h hn
        exact ⟨cur, (h1.ext hxd).kept hg2 (sne ((hO.ext hxd).blk_ne (h1.ext hxd))), h2⟩
      go_wp2
      go_roundw
      case rel => exact ⟨k + 1, _, by go_num, by omega, hO2, hCk hCR, hCk hCU, hCk hCB, (hB.ext hxd).kept hg2 (sne ((hO.ext hxd).blk_ne (hB.ext hxd))), (hA.ext hxd).kept hg2 (sne noA.symm), ext_st (he.trans hxd) hg2 oB⟩
      case measure => simp [intOf]; omega
    · obtain rfl : k = os.length := by omega
      repeat (first | (exact newModel_t13 os rs rl ss sl an A T m bR bA Nr aa ca vO vR0 vU0 vS0 w wB wr hn hns hna hwB he hT hmr hW han hrc hsc mB aB nmA us (.map (some bOn)) bU vc vd gS gU gR aS aU aR cS cU cR hB hCB haS hcS hSo hA gB ngm hdest hnp hCU haU hnu hUo uB num nus hCR haR hcR hnr hRo rB nrm nrs nru) | go_values | go_skip | go_guarded | go_step | go_upon | (simp only [Int.not_lt, Int.not_le] at *; go_simp))


end Go.Proofs.Qxb6609292a
