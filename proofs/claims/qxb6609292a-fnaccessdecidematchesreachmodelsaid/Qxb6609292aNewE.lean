/-
  WALKS for seat b6609292a: NewModel, the model is laid.
-/
import Derived.Test.Qxb6609292aNewD
set_option linter.unusedVariables false
set_option linter.unusedSimpArgs false
namespace Go.Proofs.Qxb6609292a
open Go.RowKit Go.Maps
attribute [local go_sem] Oper.semAt_some

section
variable {F : Fence} {n : Nat} {P : Program} {ops : Array Oper} {Q : Exit → Act → World → Prop} {S : World → Prop}
/-- Whichever may come up. -/
theorem wpS_br {t : Nat} {rs : List Nat} {f : Nat} {listed : Array Bool} {a : Act} {w : World} (hr : Region.ready .any ops listed = rs) (hne : rs ≠ [])
    (h : ∀ i ∈ rs, ∃ o, ops[i]? = some o ∧ Region.wanted o (yielded ops a.tmps) = true ∧ ∀ K : Act → World → Prop, (∀ a' w', (S w' ∨ (listed.setIfInBounds i true).getD t false = true) → wpS F n P ops Q S t f (listed.setIfInBounds i true) a' w' → K a' w') → Oper.wpIn F n P o a w K Q) : wpS F n P ops Q S t (f + 1) listed a w := by
  refine ⟨fun e => absurd (hr.symm.trans e) hne, fun j hj => ?_⟩
  rw [hr] at hj
  obtain ⟨o, ho, hw, h2⟩ := h j hj
  unfold wpOpIn
  simp only [ho, hw, if_true]
  exact h2 _ fun a' w' h1 h2 => ⟨h1, h2⟩
end
/-- A slice that slices.Clone has made, its block between lo and hi. -/
def ClAt (lo hi : Nat) (w : World) (c : Nat) (rows : List (List Value)) (v : Value) : Prop := ∃ a cap, v = .slice a rows.length cap ∧ rows.length ≤ cap ∧ (rows ≠ [] → ∃ g cur, a = some ⟨g, 0, none⟩ ∧ lo ≤ g ∧ g < hi ∧ Blk w g cur ∧ cur.take (rows.length * c) = rows.flatten)
theorem ClAt.ext {lo hi : Nat} {w w' : World} {c : Nat} {rows : List (List Value)} {v : Value} (h : ClAt lo hi w c rows v) (he : Ext w w') : ClAt lo hi w' c rows v := by
  obtain ⟨a, cap, h1, h2, h3⟩ := h
  refine ⟨a, cap, h1, h2, fun hn => ?_⟩
  obtain ⟨g, cur, e1, e2, e3, e4, e5⟩ := h3 hn
  exact ⟨g, cur, e1, e2, e3, e4.ext he, e5⟩
theorem Cloned.clAt {w w' : World} {c : Nat} {rows : List (List Value)} {v : Value} (h : Cloned w w' c rows v) : ClAt w.heap.size w'.heap.size w' c rows v := by
  obtain ⟨a, cap, h1, h2, h3⟩ := h
  refine ⟨a, cap, h1, h2, fun hn => ?_⟩
  obtain ⟨g, cur, e1, e2, e3, e4⟩ := h3 hn
  exact ⟨g, cur, e1, e2, e3.lt, e3, e4⟩
/-- Its block, or a number of our choice where there is none. -/
theorem ClAt.cb {lo hi : Nat} {w : World} {c : Nat} {rows : List (List Value)} {v : Value} (h : ClAt lo hi w c rows v) (G : Nat) : ∃ g a cap, v = .slice a rows.length cap ∧ rows.length ≤ cap ∧ (rows ≠ [] → a = some ⟨g, 0, none⟩) ∧ CB w g c rows ∧ ((lo ≤ g ∧ g < hi) ∨ g = G) := by
  obtain ⟨a, cap, h1, h2, h3⟩ := h
  by_cases hn : rows = []
  · exact ⟨G, a, cap, h1, h2, fun h => absurd hn h, fun h => absurd hn h, Or.inr rfl⟩
  · obtain ⟨g, cur, e1, e2, e3, e4, e5⟩ := h3 hn
    exact ⟨g, a, cap, h1, h2, fun _ => e1, fun _ => ⟨cur, e4, e5⟩, Or.inl ⟨e2, e3⟩⟩
set_option maxRecDepth 1000000 in
set_option maxHeartbeats 3200000 in
theorem newModel_f {x0 x2 x3 x5 x6 x7 x8 x9 x10 x11 x13 x14 x15 x16 x17 x18 x19 x20 x21 x22 x23 x24 x25 x26 x27 x28 x29 x30 x31 x32 x33 x34 x35 x36 x37 x38 x39 x40 x41 x42 x43 x44 x45 x46 x47 x48 x49 x50 x51 x52 x53 x54 x55 x56 x57 x58 x59 x60 x61 x62 x63 x64 x65 x66 x67 x68 x69 x70 x71 x72 x73 x74 x75 x76 x77 x78 x79 x80 x81 x82 x83 x84 x85 x86 x87 x88 x89 x90 x91 x92 x93 x94 x95 x96 x97 x98 x99 x100 x101 x102 x103 x104 x105 x106 x107 x108 x109 x110 x111 x112 x113 x114 x115 x116 x117 x118 x119 x120 x121 x122 x123 x124 x125 x126 x127 x128 x129 x130 x131 x132 x133 x134 x135 x136 x137 x138 x139 x140 x141 x142 x143 x144 x145 x146 x147 x148 x149 x150 x151 x152 x153 x154 x155 x156 x157 x158 x159 x160 x161 x162 x163 x164 x165 x166 x167 x168 x169 x170 x171 x172 x173 x174 x175 x176 x177 x178 x179 x180 x181 x182 x183 x184 x185 x186 x187 x188 x189 x190 x191 x192 x193 x194 x195 x196 x197 x198 x199 x200 x201 x202 x203 x204 x205 x206 x207 x208 x209 x210 x211 x212 x213 x214 : Value} (os : List Org) (rl : List Role) (us : List User) (sl : List Share) (an : List ByteArray) (A T bR Nr : Nat) (ao ar au ash aa : Option Addr) (co cr cu csh ca : Nat) (bU vd : Value) (w wB : World)
    (hn : os.length ≤ 1048576) (hnr : rl.length ≤ 1048576) (hnu : us.length ≤ 1048576) (hns : sl.length ≤ 1048576) (hna : an.length ≤ 1048576) (hwB : Ext w wB) (hT : TreeAt wB T os) (hmr : SM wB 3 bR Nr (posF (rl.map Role.id) (rl.map Role.id).length)) (hW : Blk wB A [.slice ao os.length co, .slice ar rl.length cr, .slice au us.length cu, .slice ash sl.length csh, .slice none 0 0, .slice aa an.length ca])
    (hos : OrgsAt wB (.slice ao os.length co) os) (hRs : RolesM wB (.slice ar rl.length cr) rl) (hUs : UsersAt wB (.slice au us.length cu) us) (hSs : SharesAt wB (.slice ash sl.length csh) sl) (han : StrsAt wB (.slice aa an.length ca) an) (hur : ∀ u ∈ us, u.roles.length ≤ 1048576) (hnp : ∀ s ∈ sl, s.perms.length ≤ 1048576) (hdest : ∀ s ∈ sl, s.dest ∈ os.map Org.id)
    (bO bA loR hiR loU hiU loS hiS : Nat) (v80 v84 v88 : Value) (wf : World) (hf : Ext wB wf) (hO : SM wf 9 bO 0 (fun _ => none)) (hA : SM wf 4 bA 0 (fun _ => none)) (hR : ClAt loR hiR wf 4 (rl.map Role.row) v80) (hU : ClAt loU hiU wf 2 (us.map User.row) v84) (hS : ClAt loS hiS wf 5 (sl.map Share.row) v88)
    (o1 : hiR ≤ loU) (o2 : hiU ≤ loS) (o3 : wB.heap.size ≤ loR) (o4 : loU ≤ hiU) (o5 : loR ≤ hiR) (nOA : bO ≠ bA) (oB : wB.heap.size ≤ bO) (aB : wB.heap.size ≤ bA) (h6 : hiS ≤ wf.heap.size) (h7 : loS ≤ hiS) :
    Code.wp Try.prog (dropSeq 12 (Try.f10.body.getD .skip)) (bodyPost Try.prog Try.f10 (NewPost os rl sl an w)) ⟨#[x0, .pointer (some ⟨A, 0, none⟩), x2, x3, .pointer (some ⟨T, 0, none⟩), x5, x6, x7, x8, x9, x10, x11, .pointer (some ⟨wf.heap.size, 0, none⟩), x13, x14, x15, x16, x17, x18, x19, x20, x21, x22, x23, x24, x25, x26, x27, x28, x29, x30, x31, x32, x33, x34, x35, x36, x37, x38, x39, x40, x41, x42, x43, x44, x45, x46, x47, x48, x49, x50, x51, x52, x53, x54, x55, x56, x57, x58, x59, x60, x61, x62, x63, x64, x65, x66, x67, x68, x69, x70, x71, x72, x73, x74, x75, x76, x77, x78, x79, x80, x81, x82, x83, x84, x85, x86, x87, x88, x89, x90, x91, x92, x93, x94, x95, x96, x97, x98, x99, x100, x101, x102, x103, x104, x105, x106, x107, x108, x109, x110, x111, x112, x113, x114, x115, x116, x117, x118, x119, x120, x121, x122, x123, x124, x125, x126, x127, x128, x129, x130, x131, x132, x133, x134, x135, x136, x137, x138, x139, x140, x141, x142, x143, x144, x145, x146, x147, x148, x149, x150, x151, x152, x153, x154, x155, x156, x157, x158, x159, x160, x161, x162, x163, x164, x165, x166, x167, x168, x169, x170, x171, x172, x173, x174, x175, x176, x177, x178, x179, x180, x181, x182, x183, x184, x185, x186, x187, x188, x189, x190, x191, x192, x193, x194, x195, x196, x197, x198, x199, x200, x201, x202, x203, x204, x205, x206, x207, x208, x209, x210, x211, x212, x213, x214], []⟩ (wf.alloc (.cells #[.pointer (some ⟨T, 0, none⟩), .map (some bO), v80, .map (some bR), v84, bU, v88, .slice none 0 0, .slice none 0 0, .slice none 0 0, vd, .map (some bA)] 117)) := by
  have hxf := Ext.alloc wf (.cells #[.pointer (some ⟨T, 0, none⟩), .map (some bO), v80, .map (some bR), v84, bU, v88, .slice none 0 0, .slice none 0 0, .slice none 0 0, vd, .map (some bA)] 117)
  have hBm := Blk.alloc wf [.pointer (some ⟨T, 0, none⟩), .map (some bO), v80, .map (some bR), v84, bU, v88, .slice none 0 0, .slice none 0 0, .slice none 0 0, vd, .map (some bA)] 117
  have lO := hO.lt
  have lA := hA.lt
  obtain ⟨gR, aR, cR, rfl, hcR, haR, hCR, bR1⟩ := hR.cb (wf.heap.size + 1)
  obtain ⟨gU, aU, cU, rfl, hcU, haU, hCU, bU1⟩ := hU.cb (wf.heap.size + 2)
  obtain ⟨gS, aS, cS, rfl, hcS, haS, hCS, bS1⟩ := hS.cb (wf.heap.size + 3)
  simp only [List.length_map] at hcR hcU hcS hBm ⊢
  have hsf := hf.size
  have haR' : rl ≠ [] → aR = some ⟨gR, 0, none⟩ := fun h => haR (by simpa using h)
  have haU' : us ≠ [] → aU = some ⟨gU, 0, none⟩ := fun h => haU (by simpa using h)
  have haS' : sl ≠ [] → aS = some ⟨gS, 0, none⟩ := fun h => haS (by simpa using h)
  have hA' : SM wf 4 bA 0 (setF []) := hA.congr (fun s _ => (setF_not (by simp)).symm)
  simp only [List.length_map] at hxf
  exact newModel_t12 os rl rl sl sl an A T wf.heap.size bR bA Nr aa ca (.slice ao os.length co) (.slice ar rl.length cr) (.slice au us.length cu) (.slice ash sl.length csh) w wB _ hn hns hna hwB (hf.trans hxf) hT hmr hW han rfl rfl hsf aB (by omega) us bU (.slice none 0 0) vd bO co ao gS gU gR aS aU aR cS cU cR hBm (hO.ext hxf) oB nOA rfl hos (hCS.ext hxf) haS' hcS (fun s hs => ⟨(hSs.2 s hs).1, (hSs.2 s hs).2.1, (hSs.2 s hs).2.2.1, (hSs.2 s hs).2.2.2.1, (hSs.2 s hs).2.2.2.2, strs_lt (hSs.2 s hs).2.2.2.2 (by omega), strs_lt (hSs.2 s hs).2.2.2.2 (by omega)⟩) (hA'.ext hxf) (by omega) (by omega) hdest hnp (hCU.ext hxf) haU' hnu (fun u hu => ⟨(hUs.2 u hu).2, hur u hu⟩) (by omega) (by omega) (by omega) (hCR.ext hxf) haR' hcR hnr (fun r hr => hRs.2 r hr) (by omega) (by omega) (by omega) (by omega)


end Go.Proofs.Qxb6609292a
