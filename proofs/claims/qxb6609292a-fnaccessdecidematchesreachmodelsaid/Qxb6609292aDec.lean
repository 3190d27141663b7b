/-
  THE WALK of Model.Decide for seat b6609292a.
-/
import Derived.Test.Qxb6609292aDecP
set_option linter.unusedVariables false
set_option linter.unusedSimpArgs false
namespace Go.Proofs.Qxb6609292a
open Go.RowKit Go.Maps
attribute [local go_sem] Oper.semAt_some

theorem wpIn_st {F : Fence} {n : Nat} {o : Oper} {a : Act} {w : World} {K : Act → World → Prop} {Q : Exit → Act → World → Prop} (hF : ∀ f, F.fn f) (ty : TypeId) (x y : Operand) (ho : o.op = .store ty x y) (g i : Nat) (xs : List Value) (v : Value) (vs : List Value)
    (hx : a.eval x = .pointer (some ⟨g, i, none⟩)) (hb : Blk w g xs) (hy : a.eval y = v) (hv : v.cells = vs.toArray) (hs : (Try.prog.info? ty).map (·.size) = some vs.length) (hi : i + vs.length ≤ xs.length) (h1 : ∀ u ∈ vs, u.oneCell' = true)
    (hK : ∀ w', Blk w' g (setR xs i vs) → w.grownBy w' (some g) → K (a.put o.dst undef) w') : Oper.wpIn F n Try.prog o a w K Q := by
  obtain ⟨w', hr, r1, r2⟩ := run_st w ty g i v vs xs hb hv hs hi h1
  unfold Oper.wpIn
  refine ⟨fun f _ => hF f, ?_⟩
  rw [semAt_any F.round a.eval o (by simp [notDefer, ho])]
  unfold execOp
  simp only [ho, hx, hy, Instr.storeAt, Instr.sureAddr, Sem.run_bind, Sem.run_pure, Result.andThen_ok, hr]
  exact hK w' r1 r2
theorem Try.info97 : (Try.prog.info? 97).map (·.size) = some 4 := by kernel_rfl
theorem Try.info53 : (Try.prog.info? 53).map (·.size) = some 1 := by kernel_rfl
theorem MapAt.kept {w w' : World} {mv : Value} {gs : List Grant} {g : Nat} (h : MapAt w mv gs) (hg : w.grownBy w' (some g)) (hne : ∀ b, mv = .map (some b) → b ≠ g) : MapAt w' mv gs := by
  rcases h with h | ⟨b, hb, hs⟩
  · exact Or.inl h
  · exact Or.inr ⟨b, hb, hs.kept hg (sne (hne b hb))⟩
theorem MapAt.lt {w : World} {b : Nat} {gs : List Grant} (h : MapAt w (.map (some b)) gs) : b < w.heap.size := by
  rcases h with h | ⟨b', hb, hs⟩
  · cases h.1
  · cases hb; exact hs.lt
theorem wpListIn_st {F : Fence} {n : Nat} (w : World) {ops : Array Oper} {rest : List Oper} {o : Oper} {a : Act} {Q : Exit → Act → World → Prop} (hF : ∀ f, F.fn f) (hgd : o.guard = none) (ty : TypeId) (x y : Operand) (ho : o.op = .store ty x y) (g i : Nat) (xs : List Value) (v : Value) (vs : List Value)
    (hx : a.eval x = .pointer (some ⟨g, i, none⟩)) (hb : Blk w g xs) (hy : a.eval y = v) (hv : v.cells = vs.toArray) (hs : (Try.prog.info? ty).map (·.size) = some vs.length) (hi : i + vs.length ≤ xs.length) (h1 : ∀ u ∈ vs, u.oneCell' = true)
    (hK : ∀ w', Blk w' g (setR xs i vs) → w.grownBy w' (some g) → wpListIn F n Try.prog ops Q rest (a.put o.dst undef) w') : wpListIn F n Try.prog ops Q (o :: rest) a w :=
  wpListIn_plain hgd fun K hK' => wpIn_st hF ty x y ho g i xs v vs hx hb hy hv hs hi h1 fun w' h2 h3 => hK' _ _ (hK w' h2 h3)
def LoopI (rs : List Role) (ss : List Share) (role : ByteArray) (p : Nat) (V0 : World) (pre : List { x : Vis // VOk rs ss role x }) (W : World) : Prop := Ext V0 W ∧ ∀ y ∈ pre, y.1.1 ≠ p
def BodyS (m A p : Nat) (os : List Org) (rs : List Role) (ss : List Share) (role perm owner : ByteArray) (w : World) (c : Code) (pre : List { x : Vis // VOk rs ss role x }) (W : World) : Prop :=
  c = .exit 0 ∧ ∃ ini x, pre = ini ++ [x] ∧ (∀ y ∈ ini, y.1.1 ≠ p) ∧ x.1.1 = p ∧ ∃ g sc sh st, FinR rs ss role perm x.1 g sc sh st ∧ Blk W (A + 4) (D8 role perm owner x.1.2.1 g sc sh st) ∧ Blk W (A + 3) (D8 ⟨#[]⟩ ⟨#[]⟩ ⟨#[]⟩ 0 ⟨#[]⟩ 0 ⟨#[]⟩ ⟨#[]⟩) ∧ Ext w W
set_option maxRecDepth 1000000 in
set_option maxHeartbeats 6400000 in
theorem decide_t5 {x0 x1 x2 x7 x11 x12 x13 x14 x15 x16 x17 x18 x19 x20 x21 x22 x23 x24 x25 x26 x27 x28 x29 x30 x31 x32 x33 x34 x35 x36 x37 x38 x39 x40 x41 x42 x43 x44 x45 x46 x47 x48 x49 x50 x51 x52 x53 x54 x55 x56 x57 x58 x59 x60 x61 x62 x63 x64 x65 x66 x67 x68 x69 x70 x71 x72 x73 x74 x75 x76 x77 x78 x79 x80 x81 x82 x83 x84 x85 x86 x87 x88 x89 x90 x91 x92 x93 : Value} (m A p : Nat) (os : List Org) (rs : List Role) (ss : List Share) (an : List ByteArray) (role perm owner : ByteArray) (w W6 : World) (hm : ModelAt w m os rs ss an) (hor : okStr role) (hop : okStr perm)
    (hno : os.length ≤ 1048576) (hnr : rs.length ≤ 1048576) (hns : ss.length ≤ 1048576) (hnp : ∀ s ∈ ss, s.perms.length ≤ 1048576) (hends : ∀ q : Nat, q < os.length → Ends (parL os) q) (hv : ∀ r ∈ rs, r.org ∈ os.map Org.id ∧ ∀ g ∈ r.grants, g.scope = 0 ∨ g.scope = 1)
    (hne : owner ≠ E0) (hp : idxTo (os.map Org.id) (os.map Org.id).length owner = some p) (hA : w.heap.size = A) (hx6 : Ext w W6) (hmA : m < A)
    (c0 : W6.cell? ⟨A, 0, none⟩ = some (.pointer (some ⟨m, 0, none⟩))) (c1 : W6.cell? ⟨A + 1, 0, none⟩ = some (.string role)) (c2 : W6.cell? ⟨A + 2, 0, none⟩ = some (.string perm)) (c5 : W6.cell? ⟨A + 5, 0, none⟩ = some (.int .i64 (p : Int)))
    (hR3 : Blk W6 (A + 3) (D8 ⟨#[]⟩ ⟨#[]⟩ ⟨#[]⟩ 0 ⟨#[]⟩ 0 ⟨#[]⟩ ⟨#[]⟩)) (hD4 : Blk W6 (A + 4) (D8 role perm owner 4 ⟨#[]⟩ 0 ⟨#[]⟩ ⟨#[]⟩)) :
    Code.wpIn Fence.wide 5 Try.prog (dropSeq 5 (Try.f45.body.getD .skip)) (bodyPostM Fence.wide 5 Try.prog Try.f45 (DecPost os rs ss an role perm owner w)) ⟨#[x0, x1, x2, .string owner, .pointer (some ⟨A, 0, none⟩), .pointer (some ⟨A + 1, 0, none⟩), .pointer (some ⟨A + 2, 0, none⟩), x7, .pointer (some ⟨A + 3, 0, none⟩), .pointer (some ⟨A + 4, 0, none⟩), .pointer (some ⟨A + 5, 0, none⟩), x11, x12, x13, x14, x15, x16, x17, x18, x19, x20, x21, x22, x23, x24, x25, x26, x27, x28, x29, x30, x31, x32, x33, x34, x35, x36, x37, x38, x39, x40, x41, x42, x43, x44, x45, x46, x47, x48, x49, x50, x51, x52, x53, x54, x55, x56, x57, x58, x59, x60, x61, x62, x63, x64, x65, x66, x67, x68, x69, x70, x71, x72, x73, x74, x75, x76, x77, x78, x79, x80, x81, x82, x83, x84, x85, x86, x87, x88, x89, x90, x91, x92, x93], []⟩ W6 := by
  conv => arg 4; whnf
  have hx1 : Ext W6 (((W6.alloc (.cells #[.pointer (some ⟨m, 0, none⟩)] 35)).alloc (.cells #[.string role] 9)).alloc (.cells #[.string perm] 9)) := ((Ext.alloc _ _).trans (Ext.alloc _ _)).trans (Ext.alloc _ _)
  have hszL : (((W6.alloc (.cells #[.pointer (some ⟨m, 0, none⟩)] 35)).alloc (.cells #[.string role] 9)).alloc (.cells #[.string perm] 9)).heap.size = W6.heap.size + 3 := by simp
  have hlD := hD4.lt
  have l5 := cell_lt c5
  have b1 : (((W6.alloc (.cells #[.pointer (some ⟨m, 0, none⟩)] 35)).alloc (.cells #[.string role] 9)).alloc (.cells #[.string perm] 9)).cell? ⟨W6.heap.size, 0, none⟩ = some (.pointer (some ⟨m, 0, none⟩)) := by
    have := ((Blk.alloc W6 [.pointer (some ⟨m, 0, none⟩)] 35).ext (Ext.alloc _ (.cells #[.string role] 9))).ext (Ext.alloc _ (.cells #[.string perm] 9))
    exact this.cell rfl
  have b2 : (((W6.alloc (.cells #[.pointer (some ⟨m, 0, none⟩)] 35)).alloc (.cells #[.string role] 9)).alloc (.cells #[.string perm] 9)).cell? ⟨W6.heap.size + 1, 0, none⟩ = some (.string role) := by
    have := (Blk.alloc (W6.alloc (.cells #[.pointer (some ⟨m, 0, none⟩)] 35)) [.string role] 9).ext (Ext.alloc _ (.cells #[.string perm] 9))
    rw [World.size_alloc] at this
    exact this.cell rfl
  have b3 : (((W6.alloc (.cells #[.pointer (some ⟨m, 0, none⟩)] 35)).alloc (.cells #[.string role] 9)).alloc (.cells #[.string perm] 9)).cell? ⟨W6.heap.size + 2, 0, none⟩ = some (.string perm) := by
    have := Blk.alloc ((W6.alloc (.cells #[.pointer (some ⟨m, 0, none⟩)] 35)).alloc (.cells #[.string role] 9)) [.string perm] 9
    rw [World.size_alloc, World.size_alloc] at this
    exact this.cell rfl
  have hmL := (hm.ext hx6).ext hx1
  gi_wp2_with (refine ⟨trivial, ?_⟩; gi_at_call 66; refine (callsIn_wide.2 (reached_any m role perm W6)).mono ?_; rintro e w' ⟨rfl, rfl⟩)
  refine wpIn_rangeFunc_ownH rfl (by omega) (gf := 70) (lb := #[.pointer (some ⟨W6.heap.size, 0, none⟩), .pointer (some ⟨W6.heap.size + 1, 0, none⟩), .pointer (some ⟨W6.heap.size + 2, 0, none⟩)]) rfl trivial (enters_of Try.func70 (by kernel_rfl) rfl)
    (reached_stops 4 (by omega) m W6.heap.size (W6.heap.size + 1) (W6.heap.size + 2) os rs ss an role perm (((W6.alloc (.cells #[.pointer (some ⟨m, 0, none⟩)] 35)).alloc (.cells #[.string role] 9)).alloc (.cells #[.string perm] 9)) hmL hor hop hno hnr hns hnp hends hv b1 b2 b3) Kc.trans ?hKb (Below.refl _ _) (fun _ => rfl)
    (LoopI rs ss role p (((W6.alloc (.cells #[.pointer (some ⟨m, 0, none⟩)] 35)).alloc (.cells #[.string role] 9)).alloc (.cells #[.string perm] 9))) (BodyS m A p os rs ss role perm owner w) ?hI ?hIx ⟨Ext.refl _, fun y hy => by cases hy⟩
    (fun x a' W => ∃ Bx, W6.heap.size + 3 ≤ Bx ∧ Blk W Bx [.int .i64 x.1.2.1, .int .i64 x.1.2.2] ∧ a' = { tmps := #[x0, x1, x2, .string owner, .pointer (some ⟨A, 0, none⟩), .pointer (some ⟨A + 1, 0, none⟩), .pointer (some ⟨A + 2, 0, none⟩), x7, .pointer (some ⟨A + 3, 0, none⟩), .pointer (some ⟨A + 4, 0, none⟩), .pointer (some ⟨A + 5, 0, none⟩), x11, .int .i64 (x.1.1 : Int), .pointer (some ⟨Bx, 0, none⟩), x14, x15, x16, x17, x18, x19, x20, x21, x22, x23, x24, x25, x26, x27, x28, x29, x30, x31, x32, x33, x34, x35, x36, x37, .pointer (some ⟨m, 0, none⟩), .string role, .string perm, .func (.func 70) #[] #[.pointer (some ⟨W6.heap.size, 0, none⟩), .pointer (some ⟨W6.heap.size + 1, 0, none⟩), .pointer (some ⟨W6.heap.size + 2, 0, none⟩)], .int .i64 (x.1.1 : Int), .agg #[.int .i64 x.1.2.1, .int .i64 x.1.2.2], x44, x45, x46, x47, x48, x49, x50, x51, x52, x53, x54, x55, x56, x57, x58, x59, x60, x61, x62, x63, x64, x65, x66, x67, x68, x69, x70, x71, x72, x73, x74, x75, x76, x77, x78, x79, x80, x81, x82, x83, x84, x85, x86, x87, x88, x89, x90, x91, x92, x93], defers := [] }) ?hAx ?assign ?body ?done ?stop
  case hKb =>
    intro W l o o' hl ho hoc hwk
    refine ⟨belowK_b (w := (((W6.alloc (.cells #[.pointer (some ⟨m, 0, none⟩)] 35)).alloc (.cells #[.string role] 9)).alloc (.cells #[.string perm] 9))) (Nat.le_refl _) W l o o' hl ho hoc hwk, fun k xs T z hk => ?_⟩
    refine ((grownBy_putObj' W l o').block k (Array.getElem?_eq_some_iff.1 hk).1 ?_).trans hk
    intro e
    cases e
    rw [hk] at ho
    cases ho
    cases hoc
  case hI =>
    rintro pre X Y row ⟨h1, h2⟩ hg hr
    exact ⟨grown_ext h1 hg (fun k hk => (hr k hk).1), h2⟩
  case hIx =>
    rintro c pre X Y row ⟨h1, ini, x, e1, e2, e3, g, sc, sh, st, f1, f2, f3, f4⟩ hg hr
    refine ⟨h1, ini, x, e1, e2, e3, g, sc, sh, st, f1, f2.kept hg ?_, f3.kept hg ?_, grown_ext f4 hg (fun k hk => ?_)⟩
    · intro e; have := (hr _ e.symm).1; rw [hszL] at this; omega
    · intro e; have := (hr _ e.symm).1; rw [hszL] at this; omega
    · have := (hr k hk).1; rw [hszL] at this; have := hx6.size; omega
  case hAx =>
    rintro x a' _ X Y row ⟨Bx, h1, h2, h3⟩ hg hr
    refine ⟨Bx, h1, h2.kept hg ?_, h3⟩
    intro e
    obtain ⟨_, o, ho, hoc⟩ := hr _ e.symm
    obtain ⟨T2, hT2⟩ := h2
    rw [hT2] at ho
    cases ho
    cases hoc
  case assign =>
    rintro l pre x W K ⟨hi1, hi2⟩ hK
    have hs := hi1.size
    rw [hszL] at hs
    have hBx := Blk.alloc W [.int .i64 x.1.2.1, .int .i64 x.1.2.2] 156
    simp only [encV]
    gi_wp2
    refine hK _ _ ((KeepsOthers.alloc _ _).from _) (Kc.of_ext (Ext.alloc _ _) hi1.size) ⟨hi1.trans (Ext.alloc _ _), hi2⟩ ⟨W.heap.size, hs, hBx, rfl⟩
  case body =>
    rintro l pre ⟨⟨q, b, s0⟩, hx⟩ a' W hl ⟨r0, hr0⟩ ⟨hi1, hi2⟩ ⟨Bx, hBx, bX, rfl⟩ hlt
    have hex := hx1.trans hi1
    have d0 := hex.cell c0
    have d1 := hex.cell c1
    have d2 := hex.cell c2
    have d5 := hex.cell c5
    have x0 : W.cell? ⟨Bx, 0, none⟩ = some (.int .i64 b) := bX.cell rfl
    have x1' : W.cell? ⟨Bx, 1, none⟩ = some (.int .i64 s0) := bX.cell rfl
    rcases ne_test (q : Int) (p : Int) with ⟨e1, e2⟩ | ⟨e1, e2⟩
    · have hD := hD4.ext hex
      have hR := hR3.ext hex
      have cD3 : W.cell? ⟨A + 4, 3, none⟩ = some (.int .i64 4) := hD.cell rfl
      have fD := hD.frozen
      have hset := blk_set1 hD (i := 3) (by simp [D8]) (.int .i64 b)
      have hD7 : Blk (W.setCell ⟨A + 4, 3, none⟩ (.int .i64 b)) (A + 4) (D8 role perm owner b ⟨#[]⟩ 0 ⟨#[]⟩ ⟨#[]⟩) := hset.1
      have hg7 := hset.2
      have y0 := hg7.cell x0 (sne (by show Bx ≠ A + 4; omega))
      have hewW := hx6.trans hex
      obtain ⟨T, bO, vR, bR, vU, bU, vS, gS, gM, vc, vd, bA, S, M, Nr, Na, hB, hT, hRo, hmr, hSh, hgr, hgS, hgM, hma⟩ := hm
      have hqp : Hid (q = p) := Int.ofNat.inj e2.out
      have hxx := hx
      rcases hxx with ⟨hb2, s, sh, hs0, hsh⟩ | ⟨hb13, kr, r, hkr, hrr⟩
      · have hb2' : b = 2 := hb2
        have hs0' : s0 = (s : Int) := hs0
        have HF : Hid (FinR rs ss role perm (q, b, s0) ⟨#[]⟩ 0 sh.id sh.dest) := Or.inl ⟨hb2, rfl, rfl, s, sh, hs0, hsh, rfl, rfl⟩
        subst hb2' hs0'
        obtain ⟨sa, sc0, rfl, hsc⟩ := hSh.shape
        obtain ⟨sb, so, rfl, z0, z1, z2, z3, z4, ok⟩ := hSh.at hsh
        have hsbl := cell_lt z0
        have k6 : w.cell? ⟨m, 6, none⟩ = some (.slice (some ⟨sb, so, none⟩) ss.length sc0) := hB.cell rfl
        have hsl := (List.getElem?_eq_some_iff.1 hsh).1
        have hSf : ∀ W1, W.grownBy W1 (some (A + 4)) → (fun w' : World => w'.cell? ⟨A, 0, none⟩ = some (.pointer (some ⟨m, 0, none⟩)) ∧ w'.cell? ⟨m, 6, none⟩ = some (.slice (some ⟨sb, so, none⟩) ss.length sc0) ∧ w'.cell? ⟨Bx, 1, none⟩ = some (.int .i64 (s : Int)) ∧ w'.cell? ⟨sb, so + s * 5, none⟩ = some (.string sh.id) ∧ w'.cell? ⟨sb, so + s * 5 + 2, none⟩ = some (.string sh.dest)) W1 := fun W1 hg => ⟨hg.cell d0 (sne (by show A ≠ A + 4; omega)), hg.cell (hewW.cell k6) (sne (by show m ≠ A + 4; omega)), hg.cell x1' (sne (by show Bx ≠ A + 4; omega)), hg.cell (hewW.cell z0) (sne (by show sb ≠ A + 4; omega)), hg.cell (hewW.cell z2) (sne (by show sb ≠ A + 4; omega))⟩
        have hS1 := hSf _ (grown_drew hg7)
        have hDd := hD7.drew
        clear hB hT hRo hmr hSh hgr hgS hgM hma z0 z1 z2 z3 z4 ok hsh
        gi_upto_region 14 with fail
        refine wpIn_region_S (fun w' => w'.cell? ⟨A, 0, none⟩ = some (.pointer (some ⟨m, 0, none⟩)) ∧ w'.cell? ⟨m, 6, none⟩ = some (.slice (some ⟨sb, so, none⟩) ss.length sc0) ∧ w'.cell? ⟨Bx, 1, none⟩ = some (.int .i64 (s : Int)) ∧ w'.cell? ⟨sb, so + s * 5, none⟩ = some (.string sh.id) ∧ w'.cell? ⟨sb, so + s * 5 + 2, none⟩ = some (.string sh.dest)) 99 (by kernel_rfl) ?_
        change wpS _ _ _ _ _ _ _ 22 #[false, false, false, false, false, false, false, false, false, false, false, false, false, false, false, false, false, false, false, false, false, false] _ _
        refine wpS_take (i := 0) (v := .pointer (some ⟨m, 0, none⟩)) (fun _ => trivial) (by kernel_rfl) rfl (by kernel_rfl) (by kernel_rfl) (by kernel_rfl) (by kernel_rfl) (by kernel_rfl) (fun _ _ _ h => h) (Or.inl ⟨by kernel_rfl, ?_⟩) hS1 ?_
        · intro w' hSw; obtain ⟨s0, s1, s2, s3, s4⟩ := hSw; go_simp
        simp only [Act.put, List.getElem_toArray, List.getElem_cons_zero, List.getElem_cons_succ, List.setIfInBounds_toArray, List.set_cons_zero, List.set_cons_succ]
        refine wpS_take (i := 1) (v := .pointer (some ⟨m, 0, none⟩)) (fun _ => trivial) (by kernel_rfl) rfl (by kernel_rfl) (by kernel_rfl) (by kernel_rfl) (by kernel_rfl) (by kernel_rfl) (fun _ _ _ h => h) (Or.inl ⟨by kernel_rfl, ?_⟩) hS1 ?_
        · intro w' hSw; obtain ⟨s0, s1, s2, s3, s4⟩ := hSw; go_simp
        simp only [Act.put, List.getElem_toArray, List.getElem_cons_zero, List.getElem_cons_succ, List.setIfInBounds_toArray, List.set_cons_zero, List.set_cons_succ]
        refine wpS_take (i := 2) (v := .pointer (some ⟨m, 6, none⟩)) (fun _ => trivial) (by kernel_rfl) rfl (by kernel_rfl) (by kernel_rfl) (by kernel_rfl) (by kernel_rfl) (by kernel_rfl) (fun _ _ _ h => h) (Or.inl ⟨by kernel_rfl, ?_⟩) hS1 ?_
        · intro w' hSw; obtain ⟨s0, s1, s2, s3, s4⟩ := hSw; go_simp
        simp only [Act.put, List.getElem_toArray, List.getElem_cons_zero, List.getElem_cons_succ, List.setIfInBounds_toArray, List.set_cons_zero, List.set_cons_succ]
        refine wpS_take (i := 3) (v := .slice (some ⟨sb, so, none⟩) ss.length sc0) (fun _ => trivial) (by kernel_rfl) rfl (by kernel_rfl) (by kernel_rfl) (by kernel_rfl) (by kernel_rfl) (by kernel_rfl) (fun _ _ _ h => h) (Or.inl ⟨by kernel_rfl, ?_⟩) hS1 ?_
        · intro w' hSw; obtain ⟨s0, s1, s2, s3, s4⟩ := hSw; go_simp
        simp only [Act.put, List.getElem_toArray, List.getElem_cons_zero, List.getElem_cons_succ, List.setIfInBounds_toArray, List.set_cons_zero, List.set_cons_succ]
        refine wpS_take (i := 4) (v := .pointer (some ⟨Bx, 1, none⟩)) (fun _ => trivial) (by kernel_rfl) rfl (by kernel_rfl) (by kernel_rfl) (by kernel_rfl) (by kernel_rfl) (by kernel_rfl) (fun _ _ _ h => h) (Or.inl ⟨by kernel_rfl, ?_⟩) hS1 ?_
        · intro w' hSw; obtain ⟨s0, s1, s2, s3, s4⟩ := hSw; go_simp
        simp only [Act.put, List.getElem_toArray, List.getElem_cons_zero, List.getElem_cons_succ, List.setIfInBounds_toArray, List.set_cons_zero, List.set_cons_succ]
        refine wpS_take (i := 5) (v := .int .i64 (s : Int)) (fun _ => trivial) (by kernel_rfl) rfl (by kernel_rfl) (by kernel_rfl) (by kernel_rfl) (by kernel_rfl) (by kernel_rfl) (fun _ _ _ h => h) (Or.inl ⟨by kernel_rfl, ?_⟩) hS1 ?_
        · intro w' hSw; obtain ⟨s0, s1, s2, s3, s4⟩ := hSw; go_simp
        simp only [Act.put, List.getElem_toArray, List.getElem_cons_zero, List.getElem_cons_succ, List.setIfInBounds_toArray, List.set_cons_zero, List.set_cons_succ]
        refine wpS_take (i := 6) (v := .pointer (some ⟨sb, so + s * 5, none⟩)) (fun _ => trivial) (by kernel_rfl) rfl (by kernel_rfl) (by kernel_rfl) (by kernel_rfl) (by kernel_rfl) (by kernel_rfl) (fun _ _ _ h => h) (Or.inl ⟨by kernel_rfl, ?_⟩) hS1 ?_
        · intro w' hSw; obtain ⟨s0, s1, s2, s3, s4⟩ := hSw; go_simp
        simp only [Act.put, List.getElem_toArray, List.getElem_cons_zero, List.getElem_cons_succ, List.setIfInBounds_toArray, List.set_cons_zero, List.set_cons_succ]
        refine wpS_take (i := 7) (v := .pointer (some ⟨sb, so + s * 5, none⟩)) (fun _ => trivial) (by kernel_rfl) rfl (by kernel_rfl) (by kernel_rfl) (by kernel_rfl) (by kernel_rfl) (by kernel_rfl) (fun _ _ _ h => h) (Or.inl ⟨by kernel_rfl, ?_⟩) hS1 ?_
        · intro w' hSw; obtain ⟨s0, s1, s2, s3, s4⟩ := hSw; go_simp
        simp only [Act.put, List.getElem_toArray, List.getElem_cons_zero, List.getElem_cons_succ, List.setIfInBounds_toArray, List.set_cons_zero, List.set_cons_succ]
        refine wpS_take (i := 8) (v := .string sh.id) (fun _ => trivial) (by kernel_rfl) rfl (by kernel_rfl) (by kernel_rfl) (by kernel_rfl) (by kernel_rfl) (by kernel_rfl) (fun _ _ _ h => h) (Or.inl ⟨by kernel_rfl, ?_⟩) hS1 ?_
        · intro w' hSw; obtain ⟨s0, s1, s2, s3, s4⟩ := hSw; go_simp
        simp only [Act.put, List.getElem_toArray, List.getElem_cons_zero, List.getElem_cons_succ, List.setIfInBounds_toArray, List.set_cons_zero, List.set_cons_succ]
        refine wpS_take (i := 9) (v := .pointer (some ⟨m, 0, none⟩)) (fun _ => trivial) (by kernel_rfl) rfl (by kernel_rfl) (by kernel_rfl) (by kernel_rfl) (by kernel_rfl) (by kernel_rfl) (fun _ _ _ h => h) (Or.inl ⟨by kernel_rfl, ?_⟩) hS1 ?_
        · intro w' hSw; obtain ⟨s0, s1, s2, s3, s4⟩ := hSw; go_simp
        simp only [Act.put, List.getElem_toArray, List.getElem_cons_zero, List.getElem_cons_succ, List.setIfInBounds_toArray, List.set_cons_zero, List.set_cons_succ]
        refine wpS_take (i := 10) (v := .pointer (some ⟨m, 0, none⟩)) (fun _ => trivial) (by kernel_rfl) rfl (by kernel_rfl) (by kernel_rfl) (by kernel_rfl) (by kernel_rfl) (by kernel_rfl) (fun _ _ _ h => h) (Or.inl ⟨by kernel_rfl, ?_⟩) hS1 ?_
        · intro w' hSw; obtain ⟨s0, s1, s2, s3, s4⟩ := hSw; go_simp
        simp only [Act.put, List.getElem_toArray, List.getElem_cons_zero, List.getElem_cons_succ, List.setIfInBounds_toArray, List.set_cons_zero, List.set_cons_succ]
        refine wpS_take (i := 11) (v := .pointer (some ⟨m, 6, none⟩)) (fun _ => trivial) (by kernel_rfl) rfl (by kernel_rfl) (by kernel_rfl) (by kernel_rfl) (by kernel_rfl) (by kernel_rfl) (fun _ _ _ h => h) (Or.inl ⟨by kernel_rfl, ?_⟩) hS1 ?_
        · intro w' hSw; obtain ⟨s0, s1, s2, s3, s4⟩ := hSw; go_simp
        simp only [Act.put, List.getElem_toArray, List.getElem_cons_zero, List.getElem_cons_succ, List.setIfInBounds_toArray, List.set_cons_zero, List.set_cons_succ]
        refine wpS_take (i := 12) (v := .slice (some ⟨sb, so, none⟩) ss.length sc0) (fun _ => trivial) (by kernel_rfl) rfl (by kernel_rfl) (by kernel_rfl) (by kernel_rfl) (by kernel_rfl) (by kernel_rfl) (fun _ _ _ h => h) (Or.inl ⟨by kernel_rfl, ?_⟩) hS1 ?_
        · intro w' hSw; obtain ⟨s0, s1, s2, s3, s4⟩ := hSw; go_simp
        simp only [Act.put, List.getElem_toArray, List.getElem_cons_zero, List.getElem_cons_succ, List.setIfInBounds_toArray, List.set_cons_zero, List.set_cons_succ]
        refine wpS_take (i := 13) (v := .pointer (some ⟨Bx, 1, none⟩)) (fun _ => trivial) (by kernel_rfl) rfl (by kernel_rfl) (by kernel_rfl) (by kernel_rfl) (by kernel_rfl) (by kernel_rfl) (fun _ _ _ h => h) (Or.inl ⟨by kernel_rfl, ?_⟩) hS1 ?_
        · intro w' hSw; obtain ⟨s0, s1, s2, s3, s4⟩ := hSw; go_simp
        simp only [Act.put, List.getElem_toArray, List.getElem_cons_zero, List.getElem_cons_succ, List.setIfInBounds_toArray, List.set_cons_zero, List.set_cons_succ]
        refine wpS_take (i := 14) (v := .int .i64 (s : Int)) (fun _ => trivial) (by kernel_rfl) rfl (by kernel_rfl) (by kernel_rfl) (by kernel_rfl) (by kernel_rfl) (by kernel_rfl) (fun _ _ _ h => h) (Or.inl ⟨by kernel_rfl, ?_⟩) hS1 ?_
        · intro w' hSw; obtain ⟨s0, s1, s2, s3, s4⟩ := hSw; go_simp
        simp only [Act.put, List.getElem_toArray, List.getElem_cons_zero, List.getElem_cons_succ, List.setIfInBounds_toArray, List.set_cons_zero, List.set_cons_succ]
        refine wpS_take (i := 15) (v := .pointer (some ⟨sb, so + s * 5, none⟩)) (fun _ => trivial) (by kernel_rfl) rfl (by kernel_rfl) (by kernel_rfl) (by kernel_rfl) (by kernel_rfl) (by kernel_rfl) (fun _ _ _ h => h) (Or.inl ⟨by kernel_rfl, ?_⟩) hS1 ?_
        · intro w' hSw; obtain ⟨s0, s1, s2, s3, s4⟩ := hSw; go_simp
        simp only [Act.put, List.getElem_toArray, List.getElem_cons_zero, List.getElem_cons_succ, List.setIfInBounds_toArray, List.set_cons_zero, List.set_cons_succ]
        refine wpS_take (i := 16) (v := .pointer (some ⟨sb, so + s * 5 + 2, none⟩)) (fun _ => trivial) (by kernel_rfl) rfl (by kernel_rfl) (by kernel_rfl) (by kernel_rfl) (by kernel_rfl) (by kernel_rfl) (fun _ _ _ h => h) (Or.inl ⟨by kernel_rfl, ?_⟩) hS1 ?_
        · intro w' hSw; obtain ⟨s0, s1, s2, s3, s4⟩ := hSw; go_simp
        simp only [Act.put, List.getElem_toArray, List.getElem_cons_zero, List.getElem_cons_succ, List.setIfInBounds_toArray, List.set_cons_zero, List.set_cons_succ]
        refine wpS_take (i := 17) (v := .string sh.dest) (fun _ => trivial) (by kernel_rfl) rfl (by kernel_rfl) (by kernel_rfl) (by kernel_rfl) (by kernel_rfl) (by kernel_rfl) (fun _ _ _ h => h) (Or.inl ⟨by kernel_rfl, ?_⟩) hS1 ?_
        · intro w' hSw; obtain ⟨s0, s1, s2, s3, s4⟩ := hSw; go_simp
        simp only [Act.put, List.getElem_toArray, List.getElem_cons_zero, List.getElem_cons_succ, List.setIfInBounds_toArray, List.set_cons_zero, List.set_cons_succ]
        refine wpS_take (i := 18) (v := .pointer (some ⟨A + 4, 6, none⟩)) (fun _ => trivial) (by kernel_rfl) rfl (by kernel_rfl) (by kernel_rfl) (by kernel_rfl) (by kernel_rfl) (by kernel_rfl) (fun _ _ _ h => h) (Or.inl ⟨by kernel_rfl, ?_⟩) hS1 ?_
        · intro w' hSw; obtain ⟨s0, s1, s2, s3, s4⟩ := hSw; go_simp
        simp only [Act.put, List.getElem_toArray, List.getElem_cons_zero, List.getElem_cons_succ, List.setIfInBounds_toArray, List.set_cons_zero, List.set_cons_succ]
        refine wpS_one (i := 19) (by kernel_rfl) rfl (by kernel_rfl) (fun K hK => ?_)
        refine wpIn_st (fun _ => trivial) 9 (.tmp 71) (.tmp 61) (by rfl) (A + 4) 6 _ (.string sh.id) [.string sh.id] (by rfl) hDd (by rfl) rfl Try.info9 (by simp [D8]) (by simp [Value.oneCell']) ?_
        intro W8 hD8' hg8
        have hD8 : Blk W8 (A + 4) (D8 role perm owner 2 ⟨#[]⟩ 0 sh.id ⟨#[]⟩) := hD8'
        have hgW8 := (grown_drew hg7).trans hg8
        refine hK _ _ (Or.inl (hSf _ hgW8)) ?_
        clear hK
        simp only [Act.put, List.getElem_toArray, List.getElem_cons_zero, List.getElem_cons_succ, List.setIfInBounds_toArray, List.set_cons_zero, List.set_cons_succ]
        refine wpS_take (i := 20) (v := .pointer (some ⟨A + 4, 7, none⟩)) (fun _ => trivial) (by kernel_rfl) rfl (by kernel_rfl) (by kernel_rfl) (by kernel_rfl) (by kernel_rfl) (by kernel_rfl) (fun _ _ _ h => h) (Or.inl ⟨by kernel_rfl, ?_⟩) (hSf _ hgW8) ?_
        · intro w' hSw; obtain ⟨s0, s1, s2, s3, s4⟩ := hSw; go_simp
        simp only [Act.put, List.getElem_toArray, List.getElem_cons_zero, List.getElem_cons_succ, List.setIfInBounds_toArray, List.set_cons_zero, List.set_cons_succ]
        refine wpS_one (i := 21) (by kernel_rfl) rfl (by kernel_rfl) (fun K hK => ?_)
        refine wpIn_st (fun _ => trivial) 9 (.tmp 72) (.tmp 70) (by rfl) (A + 4) 7 _ (.string sh.dest) [.string sh.dest] (by rfl) hD8 (by rfl) rfl Try.info9 (by simp [D8]) (by simp [Value.oneCell']) ?_
        intro W9 hD9' hg9
        have hD9 : Blk W9 (A + 4) (D8 role perm owner 2 ⟨#[]⟩ 0 sh.id sh.dest) := hD9'
        have hgW9 := hgW8.trans hg9
        refine hK _ _ (Or.inl (hSf _ hgW9)) ?_
        clear hK
        simp only [Act.put, List.getElem_toArray, List.getElem_cons_zero, List.getElem_cons_succ, List.setIfInBounds_toArray, List.set_cons_zero, List.set_cons_succ]
        refine wpS_done (by kernel_rfl) ?_ _
        gi_wp2
        exact ⟨KeepsFrom.of_grownBy hgW9 (fun j e => by cases e; first | omega | (rw [hszL]; omega)), rfl, pre, _, rfl, hi2, hqp.out, _, _, _, _, HF.out, hD9, hR.kept hgW9 (sne (by omega)), grown_ext hewW hgW9 (fun k e => by cases e; omega)⟩
      · obtain ⟨ar, rc0, rfl, hrc⟩ := hRo.shape
        obtain ⟨rb, ro, rfl, z0, z1, z2, z3, ok0, okn, oko, okg, hmap⟩ := hRo.at hrr
        obtain ⟨mo, hmo⟩ := hmap.shape
        rw [hmo] at z3 hmap
        have hrl := cell_lt z0
        have hkl := (List.getElem?_eq_some_iff.1 hrr).1
        have k2 : w.cell? ⟨m, 2, none⟩ = some (.slice (some ⟨rb, ro, none⟩) rs.length rc0) := hB.cell rfl
        have k3 : w.cell? ⟨m, 3, none⟩ = some (.map (some bR)) := hB.cell rfl
        have hbR := hmr.lt
        have hpos : posD (rs.map Role.id) role = kr := by unfold posD; rw [hkr]; rfl
        have HF : Hid (FinR rs ss role perm (q, b, s0) r.org ((permTo r.grants r.grants.length perm).getD 0) ⟨#[]⟩ ⟨#[]⟩) := Or.inr ⟨hb13, rfl, rfl, kr, r, hkr, hrr, rfl, rfl⟩
        have hSf : ∀ W1, W.grownBy W1 (some (A + 4)) → (fun w' : World => w'.cell? ⟨A, 0, none⟩ = some (.pointer (some ⟨m, 0, none⟩)) ∧ w'.cell? ⟨m, 2, none⟩ = some (.slice (some ⟨rb, ro, none⟩) rs.length rc0) ∧ w'.cell? ⟨m, 3, none⟩ = some (.map (some bR)) ∧ w'.cell? ⟨A + 1, 0, none⟩ = some (.string role) ∧ (Instr.lookup 58 (.map (some bR)) (.string role) false).run Try.prog w' = .ok (.int .i64 (kr : Int)) w' ∧ w'.cell? ⟨rb, ro + kr * 4, none⟩ = some (.string r.id) ∧ w'.cell? ⟨rb, ro + kr * 4 + 1, none⟩ = some (.string r.name) ∧ w'.cell? ⟨rb, ro + kr * 4 + 2, none⟩ = some (.string r.org) ∧ w'.cell? ⟨rb, ro + kr * 4 + 3, none⟩ = some (.map mo)) W1 := fun W1 hg => ⟨hg.cell d0 (sne (by show A ≠ A + 4; omega)), hg.cell (hewW.cell k2) (sne (by show m ≠ A + 4; omega)), hg.cell (hewW.cell k3) (sne (by show m ≠ A + 4; omega)), hg.cell d1 (sne (by show A + 1 ≠ A + 4; omega)), by rw [← hpos]; exact ((hmr.ext hewW).kept hg (sne (by omega))).posD hor, hg.cell (hewW.cell z0) (sne (by show rb ≠ A + 4; omega)), hg.cell (hewW.cell z1) (sne (by show rb ≠ A + 4; omega)), hg.cell (hewW.cell z2) (sne (by show rb ≠ A + 4; omega)), hg.cell (hewW.cell z3) (sne (by show rb ≠ A + 4; omega))⟩
        have hmk : ∀ W1, W.grownBy W1 (some (A + 4)) → MapAt W1 (.map mo) r.grants := fun W1 hg => (hmap.ext hewW).kept hg (fun b' hb' => by cases hb'; have := hmap.lt; omega)
        have hS1 := hSf _ (grown_drew hg7)
        have hDd := hD7.drew
        have hbne : ((b : Int) == 2) = false := by rcases hb13 with h | h <;> (have h' : b = _ := h; rw [h']; rfl)
        have hszW := hi1.size
        rw [hszL] at hszW
        clear hB hT hRo hmr hSh hgr hgS hgM hma z0 z1 z2 z3 hkr hrr hpos
        gi_upto_region 15 with fail
        · refine wpIn_region_S (fun w' => w'.cell? ⟨A, 0, none⟩ = some (.pointer (some ⟨m, 0, none⟩)) ∧ w'.cell? ⟨m, 2, none⟩ = some (.slice (some ⟨rb, ro, none⟩) rs.length rc0) ∧ w'.cell? ⟨m, 3, none⟩ = some (.map (some bR)) ∧ w'.cell? ⟨A + 1, 0, none⟩ = some (.string role) ∧ (Instr.lookup 58 (.map (some bR)) (.string role) false).run Try.prog w' = .ok (.int .i64 (kr : Int)) w' ∧ w'.cell? ⟨rb, ro + kr * 4, none⟩ = some (.string r.id) ∧ w'.cell? ⟨rb, ro + kr * 4 + 1, none⟩ = some (.string r.name) ∧ w'.cell? ⟨rb, ro + kr * 4 + 2, none⟩ = some (.string r.org) ∧ w'.cell? ⟨rb, ro + kr * 4 + 3, none⟩ = some (.map mo)) 99 (by kernel_rfl) ?_
          change wpS _ _ _ _ _ _ _ 14 #[false, false, false, false, false, false, false, false, false, false, false, false, false, false] _ _
          refine wpS_take (i := 0) (v := .pointer (some ⟨m, 0, none⟩)) (fun _ => trivial) (by kernel_rfl) rfl (by kernel_rfl) (by kernel_rfl) (by kernel_rfl) (by kernel_rfl) (by kernel_rfl) (fun _ _ _ h => h) (Or.inl ⟨by kernel_rfl, ?_⟩) hS1 ?_
          · intro w' hSw; obtain ⟨s0, s1, s2, s3, s4, s5, s6, s7, s8⟩ := hSw; go_simp
          simp only [Act.put, List.getElem_toArray, List.getElem_cons_zero, List.getElem_cons_succ, List.setIfInBounds_toArray, List.set_cons_zero, List.set_cons_succ]
          refine wpS_take (i := 1) (v := .pointer (some ⟨m, 0, none⟩)) (fun _ => trivial) (by kernel_rfl) rfl (by kernel_rfl) (by kernel_rfl) (by kernel_rfl) (by kernel_rfl) (by kernel_rfl) (fun _ _ _ h => h) (Or.inl ⟨by kernel_rfl, ?_⟩) hS1 ?_
          · intro w' hSw; obtain ⟨s0, s1, s2, s3, s4, s5, s6, s7, s8⟩ := hSw; go_simp
          simp only [Act.put, List.getElem_toArray, List.getElem_cons_zero, List.getElem_cons_succ, List.setIfInBounds_toArray, List.set_cons_zero, List.set_cons_succ]
          refine wpS_take (i := 2) (v := .pointer (some ⟨m, 2, none⟩)) (fun _ => trivial) (by kernel_rfl) rfl (by kernel_rfl) (by kernel_rfl) (by kernel_rfl) (by kernel_rfl) (by kernel_rfl) (fun _ _ _ h => h) (Or.inl ⟨by kernel_rfl, ?_⟩) hS1 ?_
          · intro w' hSw; obtain ⟨s0, s1, s2, s3, s4, s5, s6, s7, s8⟩ := hSw; go_simp
          simp only [Act.put, List.getElem_toArray, List.getElem_cons_zero, List.getElem_cons_succ, List.setIfInBounds_toArray, List.set_cons_zero, List.set_cons_succ]
          refine wpS_take (i := 3) (v := .slice (some ⟨rb, ro, none⟩) rs.length rc0) (fun _ => trivial) (by kernel_rfl) rfl (by kernel_rfl) (by kernel_rfl) (by kernel_rfl) (by kernel_rfl) (by kernel_rfl) (fun _ _ _ h => h) (Or.inl ⟨by kernel_rfl, ?_⟩) hS1 ?_
          · intro w' hSw; obtain ⟨s0, s1, s2, s3, s4, s5, s6, s7, s8⟩ := hSw; go_simp
          simp only [Act.put, List.getElem_toArray, List.getElem_cons_zero, List.getElem_cons_succ, List.setIfInBounds_toArray, List.set_cons_zero, List.set_cons_succ]
          refine wpS_take (i := 4) (v := .pointer (some ⟨m, 0, none⟩)) (fun _ => trivial) (by kernel_rfl) rfl (by kernel_rfl) (by kernel_rfl) (by kernel_rfl) (by kernel_rfl) (by kernel_rfl) (fun _ _ _ h => h) (Or.inl ⟨by kernel_rfl, ?_⟩) hS1 ?_
          · intro w' hSw; obtain ⟨s0, s1, s2, s3, s4, s5, s6, s7, s8⟩ := hSw; go_simp
          simp only [Act.put, List.getElem_toArray, List.getElem_cons_zero, List.getElem_cons_succ, List.setIfInBounds_toArray, List.set_cons_zero, List.set_cons_succ]
          refine wpS_take (i := 5) (v := .pointer (some ⟨m, 0, none⟩)) (fun _ => trivial) (by kernel_rfl) rfl (by kernel_rfl) (by kernel_rfl) (by kernel_rfl) (by kernel_rfl) (by kernel_rfl) (fun _ _ _ h => h) (Or.inl ⟨by kernel_rfl, ?_⟩) hS1 ?_
          · intro w' hSw; obtain ⟨s0, s1, s2, s3, s4, s5, s6, s7, s8⟩ := hSw; go_simp
          simp only [Act.put, List.getElem_toArray, List.getElem_cons_zero, List.getElem_cons_succ, List.setIfInBounds_toArray, List.set_cons_zero, List.set_cons_succ]
          refine wpS_take (i := 6) (v := .pointer (some ⟨m, 3, none⟩)) (fun _ => trivial) (by kernel_rfl) rfl (by kernel_rfl) (by kernel_rfl) (by kernel_rfl) (by kernel_rfl) (by kernel_rfl) (fun _ _ _ h => h) (Or.inl ⟨by kernel_rfl, ?_⟩) hS1 ?_
          · intro w' hSw; obtain ⟨s0, s1, s2, s3, s4, s5, s6, s7, s8⟩ := hSw; go_simp
          simp only [Act.put, List.getElem_toArray, List.getElem_cons_zero, List.getElem_cons_succ, List.setIfInBounds_toArray, List.set_cons_zero, List.set_cons_succ]
          refine wpS_take (i := 7) (v := .map (some bR)) (fun _ => trivial) (by kernel_rfl) rfl (by kernel_rfl) (by kernel_rfl) (by kernel_rfl) (by kernel_rfl) (by kernel_rfl) (fun _ _ _ h => h) (Or.inl ⟨by kernel_rfl, ?_⟩) hS1 ?_
          · intro w' hSw; obtain ⟨s0, s1, s2, s3, s4, s5, s6, s7, s8⟩ := hSw; go_simp
          simp only [Act.put, List.getElem_toArray, List.getElem_cons_zero, List.getElem_cons_succ, List.setIfInBounds_toArray, List.set_cons_zero, List.set_cons_succ]
          refine wpS_take (i := 8) (v := .string role) (fun _ => trivial) (by kernel_rfl) rfl (by kernel_rfl) (by kernel_rfl) (by kernel_rfl) (by kernel_rfl) (by kernel_rfl) (fun _ _ _ h => h) (Or.inl ⟨by kernel_rfl, ?_⟩) hS1 ?_
          · intro w' hSw; obtain ⟨s0, s1, s2, s3, s4, s5, s6, s7, s8⟩ := hSw; go_simp
          simp only [Act.put, List.getElem_toArray, List.getElem_cons_zero, List.getElem_cons_succ, List.setIfInBounds_toArray, List.set_cons_zero, List.set_cons_succ]
          refine wpS_take (i := 9) (v := .int .i64 (kr : Int)) (fun _ => trivial) (by kernel_rfl) rfl (by kernel_rfl) (by kernel_rfl) (by kernel_rfl) (by kernel_rfl) (by kernel_rfl) (fun _ _ _ h => h) (Or.inl ⟨by kernel_rfl, ?_⟩) hS1 ?_
          · intro w' hSw; obtain ⟨s0, s1, s2, s3, s4, s5, s6, s7, s8⟩ := hSw; go_simp
          simp only [Act.put, List.getElem_toArray, List.getElem_cons_zero, List.getElem_cons_succ, List.setIfInBounds_toArray, List.set_cons_zero, List.set_cons_succ]
          refine wpS_take (i := 10) (v := .pointer (some ⟨rb, ro + kr * 4, none⟩)) (fun _ => trivial) (by kernel_rfl) rfl (by kernel_rfl) (by kernel_rfl) (by kernel_rfl) (by kernel_rfl) (by kernel_rfl) (fun _ _ _ h => h) (Or.inl ⟨by kernel_rfl, ?_⟩) hS1 ?_
          · intro w' hSw; obtain ⟨s0, s1, s2, s3, s4, s5, s6, s7, s8⟩ := hSw; go_simp
          simp only [Act.put, List.getElem_toArray, List.getElem_cons_zero, List.getElem_cons_succ, List.setIfInBounds_toArray, List.set_cons_zero, List.set_cons_succ]
          refine wpS_take (i := 11) (v := .agg #[.string r.id, .string r.name, .string r.org, .map mo]) (fun _ => trivial) (by kernel_rfl) rfl (by kernel_rfl) (by kernel_rfl) (by kernel_rfl) (by kernel_rfl) (by kernel_rfl) (fun _ _ _ h => h) (Or.inl ⟨by kernel_rfl, ?_⟩) hS1 ?_
          · intro w' hSw; obtain ⟨s0, s1, s2, s3, s4, s5, s6, s7, s8⟩ := hSw; go_simp
          simp only [Act.put, List.getElem_toArray, List.getElem_cons_zero, List.getElem_cons_succ, List.setIfInBounds_toArray, List.set_cons_zero, List.set_cons_succ]
          refine wpS_one (i := 12) (by kernel_rfl) rfl (by kernel_rfl) (fun K hK => ?_)
          go_simp
          have hgA := (grown_drew hg7).trans (World.grownBy_alloc _ (.cells #[.string ⟨#[]⟩, .string ⟨#[]⟩, .string ⟨#[]⟩, .map none] 97) (some (A + 4)))
          have hBz : Blk ((W.setCell ⟨A + 4, 3, none⟩ (.int .i64 b)).drew.alloc (.cells #[.string ⟨#[]⟩, .string ⟨#[]⟩, .string ⟨#[]⟩, .map none] 97)) W.heap.size [.string ⟨#[]⟩, .string ⟨#[]⟩, .string ⟨#[]⟩, .map none] := by
            have := Blk.alloc (W.setCell ⟨A + 4, 3, none⟩ (.int .i64 b)).drew [.string ⟨#[]⟩, .string ⟨#[]⟩, .string ⟨#[]⟩, .map none] 97
            rw [show (W.setCell ⟨A + 4, 3, none⟩ (.int .i64 b)).drew.heap.size = W.heap.size by simp] at this
            exact this
          have hDa := hDd.ext (Ext.alloc _ (.cells #[.string ⟨#[]⟩, .string ⟨#[]⟩, .string ⟨#[]⟩, .map none] 97))
          refine hK _ _ (Or.inl (hSf _ hgA)) ?_
          clear hK
          simp only [Act.put, List.getElem_toArray, List.getElem_cons_zero, List.getElem_cons_succ, List.setIfInBounds_toArray, List.set_cons_zero, List.set_cons_succ]
          refine wpS_one (i := 13) (by kernel_rfl) rfl (by kernel_rfl) (fun K hK => ?_)
          refine wpIn_st (fun _ => trivial) 97 (.tmp 14) (.tmp 84) (by rfl) W.heap.size 0 _ (.agg #[.string r.id, .string r.name, .string r.org, .map mo]) [.string r.id, .string r.name, .string r.org, .map mo] (by rfl) hBz (by rfl) rfl Try.info97 (by simp) (by simp [Value.oneCell']) ?_
          intro W9 hB9' hg9
          have hB9 : Blk W9 W.heap.size [.string r.id, .string r.name, .string r.org, .map mo] := hB9'
          have hgW9 := hgA.andThen hg9 (fun j e => by cases e; exact Or.inl (Nat.le_refl _))
          have hD9 := hDa.kept hg9 (sne (by omega))
          refine hK _ _ (Or.inl (hSf _ hgW9)) ?_
          clear hK
          simp only [Act.put, List.getElem_toArray, List.getElem_cons_zero, List.getElem_cons_succ, List.setIfInBounds_toArray, List.set_cons_zero, List.set_cons_succ]
          refine wpS_done (by kernel_rfl) ?_ _
          have hSg : ∀ W1, W.grownBy W1 (some (A + 4)) → Blk W1 W.heap.size [.string r.id, .string r.name, .string r.org, .map mo] → (fun w' : World => w'.cell? ⟨W.heap.size, 2, none⟩ = some (.string r.org) ∧ w'.cell? ⟨W.heap.size, 3, none⟩ = some (.map mo) ∧ w'.cell? ⟨A + 2, 0, none⟩ = some (.string perm) ∧ (Instr.lookup 95 (.map mo) (.string perm) false).run Try.prog w' = .ok (.int .i64 ((permTo r.grants r.grants.length perm).getD 0)) w') W1 := fun W1 hg hb => ⟨hb.cell rfl, hb.cell rfl, hg.cell d2 (sne (by show A + 2 ≠ A + 4; omega)), ((hmk W1 hg).look perm hop).2⟩
          have hS2 := hSg _ (grown_drew hgW9) hB9.drew
          clear hS1
          gi_upto_region 16 with fail
          refine wpIn_region_S (fun w' => w'.cell? ⟨W.heap.size, 2, none⟩ = some (.string r.org) ∧ w'.cell? ⟨W.heap.size, 3, none⟩ = some (.map mo) ∧ w'.cell? ⟨A + 2, 0, none⟩ = some (.string perm) ∧ (Instr.lookup 95 (.map mo) (.string perm) false).run Try.prog w' = .ok (.int .i64 ((permTo r.grants r.grants.length perm).getD 0)) w') 99 (by kernel_rfl) ?_
          change wpS _ _ _ _ _ _ _ 10 #[false, false, false, false, false, false, false, false, false, false] _ _
          refine wpS_take (i := 0) (v := .pointer (some ⟨W.heap.size, 2, none⟩)) (fun _ => trivial) (by kernel_rfl) rfl (by kernel_rfl) (by kernel_rfl) (by kernel_rfl) (by kernel_rfl) (by kernel_rfl) (fun _ _ _ h => h) (Or.inl ⟨by kernel_rfl, ?_⟩) hS2 ?_
          · intro w' hSw; obtain ⟨s0, s1, s2, s3⟩ := hSw; go_simp
          simp only [Act.put, List.getElem_toArray, List.getElem_cons_zero, List.getElem_cons_succ, List.setIfInBounds_toArray, List.set_cons_zero, List.set_cons_succ]
          refine wpS_take (i := 1) (v := .string r.org) (fun _ => trivial) (by kernel_rfl) rfl (by kernel_rfl) (by kernel_rfl) (by kernel_rfl) (by kernel_rfl) (by kernel_rfl) (fun _ _ _ h => h) (Or.inl ⟨by kernel_rfl, ?_⟩) hS2 ?_
          · intro w' hSw; obtain ⟨s0, s1, s2, s3⟩ := hSw; go_simp
          simp only [Act.put, List.getElem_toArray, List.getElem_cons_zero, List.getElem_cons_succ, List.setIfInBounds_toArray, List.set_cons_zero, List.set_cons_succ]
          refine wpS_take (i := 2) (v := .pointer (some ⟨W.heap.size, 3, none⟩)) (fun _ => trivial) (by kernel_rfl) rfl (by kernel_rfl) (by kernel_rfl) (by kernel_rfl) (by kernel_rfl) (by kernel_rfl) (fun _ _ _ h => h) (Or.inl ⟨by kernel_rfl, ?_⟩) hS2 ?_
          · intro w' hSw; obtain ⟨s0, s1, s2, s3⟩ := hSw; go_simp
          simp only [Act.put, List.getElem_toArray, List.getElem_cons_zero, List.getElem_cons_succ, List.setIfInBounds_toArray, List.set_cons_zero, List.set_cons_succ]
          refine wpS_take (i := 3) (v := .map mo) (fun _ => trivial) (by kernel_rfl) rfl (by kernel_rfl) (by kernel_rfl) (by kernel_rfl) (by kernel_rfl) (by kernel_rfl) (fun _ _ _ h => h) (Or.inl ⟨by kernel_rfl, ?_⟩) hS2 ?_
          · intro w' hSw; obtain ⟨s0, s1, s2, s3⟩ := hSw; go_simp
          simp only [Act.put, List.getElem_toArray, List.getElem_cons_zero, List.getElem_cons_succ, List.setIfInBounds_toArray, List.set_cons_zero, List.set_cons_succ]
          refine wpS_take (i := 4) (v := .string perm) (fun _ => trivial) (by kernel_rfl) rfl (by kernel_rfl) (by kernel_rfl) (by kernel_rfl) (by kernel_rfl) (by kernel_rfl) (fun _ _ _ h => h) (Or.inl ⟨by kernel_rfl, ?_⟩) hS2 ?_
          · intro w' hSw; obtain ⟨s0, s1, s2, s3⟩ := hSw; go_simp
          simp only [Act.put, List.getElem_toArray, List.getElem_cons_zero, List.getElem_cons_succ, List.setIfInBounds_toArray, List.set_cons_zero, List.set_cons_succ]
          refine wpS_take (i := 5) (v := .int .i64 ((permTo r.grants r.grants.length perm).getD 0)) (fun _ => trivial) (by kernel_rfl) rfl (by kernel_rfl) (by kernel_rfl) (by kernel_rfl) (by kernel_rfl) (by kernel_rfl) (fun _ _ _ h => h) (Or.inl ⟨by kernel_rfl, ?_⟩) hS2 ?_
          · intro w' hSw; obtain ⟨s0, s1, s2, s3⟩ := hSw; go_simp
          simp only [Act.put, List.getElem_toArray, List.getElem_cons_zero, List.getElem_cons_succ, List.setIfInBounds_toArray, List.set_cons_zero, List.set_cons_succ]
          refine wpS_take (i := 6) (v := .pointer (some ⟨A + 4, 4, none⟩)) (fun _ => trivial) (by kernel_rfl) rfl (by kernel_rfl) (by kernel_rfl) (by kernel_rfl) (by kernel_rfl) (by kernel_rfl) (fun _ _ _ h => h) (Or.inl ⟨by kernel_rfl, ?_⟩) hS2 ?_
          · intro w' hSw; obtain ⟨s0, s1, s2, s3⟩ := hSw; go_simp
          simp only [Act.put, List.getElem_toArray, List.getElem_cons_zero, List.getElem_cons_succ, List.setIfInBounds_toArray, List.set_cons_zero, List.set_cons_succ]
          refine wpS_one (i := 7) (by kernel_rfl) rfl (by kernel_rfl) (fun K hK => ?_)
          refine wpIn_st (fun _ => trivial) 9 (.tmp 91) (.tmp 86) (by rfl) (A + 4) 4 _ (.string r.org) [.string r.org] (by rfl) hD9.drew (by rfl) rfl Try.info9 (by simp [D8]) (by simp [Value.oneCell']) ?_
          intro Wa hDa' hga
          have hDA : Blk Wa (A + 4) (D8 role perm owner b r.org 0 ⟨#[]⟩ ⟨#[]⟩) := hDa'
          have hgWa := (grown_drew hgW9).trans hga
          have hS3 := hSg _ hgWa (hB9.drew.kept hga (sne (by omega)))
          refine hK _ _ (Or.inl hS3) ?_
          clear hK
          simp only [Act.put, List.getElem_toArray, List.getElem_cons_zero, List.getElem_cons_succ, List.setIfInBounds_toArray, List.set_cons_zero, List.set_cons_succ]
          refine wpS_take (i := 8) (v := .pointer (some ⟨A + 4, 5, none⟩)) (fun _ => trivial) (by kernel_rfl) rfl (by kernel_rfl) (by kernel_rfl) (by kernel_rfl) (by kernel_rfl) (by kernel_rfl) (fun _ _ _ h => h) (Or.inl ⟨by kernel_rfl, ?_⟩) hS3 ?_
          · intro w' hSw; obtain ⟨s0, s1, s2, s3⟩ := hSw; go_simp
          simp only [Act.put, List.getElem_toArray, List.getElem_cons_zero, List.getElem_cons_succ, List.setIfInBounds_toArray, List.set_cons_zero, List.set_cons_succ]
          refine wpS_one (i := 9) (by kernel_rfl) rfl (by kernel_rfl) (fun K hK => ?_)
          refine wpIn_st (fun _ => trivial) 53 (.tmp 92) (.tmp 90) (by rfl) (A + 4) 5 _ (.int .i64 ((permTo r.grants r.grants.length perm).getD 0)) [.int .i64 ((permTo r.grants r.grants.length perm).getD 0)] (by rfl) hDA (by rfl) rfl Try.info53 (by simp [D8]) (by simp [Value.oneCell']) ?_
          intro Wb hDb' hgb
          have hDB : Blk Wb (A + 4) (D8 role perm owner b r.org ((permTo r.grants r.grants.length perm).getD 0) ⟨#[]⟩ ⟨#[]⟩) := hDb'
          have hgWb := hgWa.trans hgb
          refine hK _ _ (Or.inl (hSg _ hgWb ((hB9.drew.kept hga (sne (by omega))).kept hgb (sne (by omega))))) ?_
          clear hK
          simp only [Act.put, List.getElem_toArray, List.getElem_cons_zero, List.getElem_cons_succ, List.setIfInBounds_toArray, List.set_cons_zero, List.set_cons_succ]
          refine wpS_done (by kernel_rfl) ?_ _
          gi_wp2
          exact ⟨KeepsFrom.of_grownBy hgWb (fun j e => by cases e; first | omega | (rw [hszL]; omega)), rfl, pre, _, rfl, hi2, hqp.out, _, _, _, _, HF.out, hDB, hR.kept hgWb (sne (by omega)), grown_ext hewW hgWb (fun k e => by cases e; omega)⟩
    · have hnew : LoopI rs ss role p (((W6.alloc (.cells #[.pointer (some ⟨m, 0, none⟩)] 35)).alloc (.cells #[.string role] 9)).alloc (.cells #[.string perm] 9)) (pre ++ [⟨(q, b, s0), hx⟩]) W := ⟨hi1, fun y hy => by
        rcases List.mem_append.1 hy with h | h
        · exact hi2 y h
        · rw [List.mem_singleton] at h
          rw [h]
          exact fun e => e2 (by show (q : Int) = p; rw [show q = p from e])⟩
      have hszW := hi1.size
      rw [hszL] at hszW
      gi_wp2
      exact ⟨KeepsFrom.refl _ _, Kc.of_ext (Ext.refl _) (by first | exact hszW | (rw [hszL]; exact hszW)), hnew⟩
  case done =>
    rintro D ys W hD' hS ⟨h1, h2⟩ hK
    rw [hszL] at hD'
    have hex := hx1.trans h1
    have hD := hD4.ext hex
    have hR := hR3.ext hex
    have HO : Hid (DecR os rs ss an role perm owner 4 ⟨#[]⟩ 0 ⟨#[]⟩ ⟨#[]⟩) := Or.inr (Or.inr ⟨hne, p, hp, Or.inl ⟨_, hS, fun x hx => by obtain ⟨y, hy, rfl⟩ := List.mem_map.1 hx; exact h2 y hy, rfl, rfl, rfl, rfl, rfl⟩⟩)
    clear h2 hS
    obtain ⟨d0, d1, d2, d3, d4, d5, d6, d7⟩ := d8_cells hD
    have hDl := (Array.getElem?_eq_some_iff.1 hK).1
    gi_wp2_with (refine wpListIn_st _ (fun _ => trivial) rfl 55 (.tmp 8) (.tmp 93) rfl (A + 3) 0 _ (.agg #[.string role, .string perm, .string owner, .int .i64 4, .string ⟨#[]⟩, .int .i64 0, .string ⟨#[]⟩, .string ⟨#[]⟩]) (D8 role perm owner 4 ⟨#[]⟩ 0 ⟨#[]⟩ ⟨#[]⟩) rfl hR rfl rfl Try.info55 (by simp [D8]) (by simp [D8, Value.oneCell']) ?_; intro W8 hR8' hg8; have hR8 : Blk W8 (A + 3) (D8 role perm owner 4 ⟨#[]⟩ 0 ⟨#[]⟩ ⟨#[]⟩) := hR8'; clear hR8')
    have hK8 := (hg8.block D hDl (sne (by omega))).trans hK
    refine ⟨by simp, .inl ⟨_, _, rfl, run_takeDeferred hK8, ?_⟩⟩
    have hg9 := grownBy_putObj' W8 D (.deferred none)
    have hR9 := hR8.kept hg9 (sne (by omega))
    obtain ⟨q0, q1, q2, q3, q4, q5, q6, q7⟩ := d8_cells hR9
    have hE9 : Ext w (W8.putObj D (.deferred none)) := grown_ext (grown_ext (hx6.trans hex) hg8 (fun k e => by cases e; omega)) hg9 (fun k e => by cases e; have := hx6.size; omega)
    exact ⟨.agg #[.string role, .string perm, .string owner, .int .i64 4, .string ⟨#[]⟩, .int .i64 0, .string ⟨#[]⟩, .string ⟨#[]⟩], by simp [results, Try.results45, go_sem, q0, q1, q2, q3, q4, q5, q6, q7], ⟨_, _, _, _, _, HO, rfl, hE9⟩⟩
  case stop =>
    rintro D c pre W hD' hS ⟨rfl, ini, x, rfl, f2, f3, g, sc, sh, st, f4, hD, hR, f7⟩ hK
    rw [hszL] at hD'
    have HO : Hid (DecR os rs ss an role perm owner x.1.2.1 g sc sh st) := Or.inr (Or.inr ⟨hne, p, hp, Or.inr ⟨ini.map (·.1), x.1, by rw [List.map_append] at hS; exact hS, fun y hy => by obtain ⟨z, hz, rfl⟩ := List.mem_map.1 hy; exact f2 z hz, f3, rfl, f4⟩⟩)
    clear hS f2 f3 f4
    obtain ⟨d0, d1, d2, d3, d4, d5, d6, d7⟩ := d8_cells hD
    have hDl := (Array.getElem?_eq_some_iff.1 hK).1
    gi_wp2_with (refine wpListIn_st _ (fun _ => trivial) rfl 55 (.tmp 8) (.tmp 93) rfl (A + 3) 0 _ (.agg #[.string role, .string perm, .string owner, .int .i64 x.1.2.1, .string g, .int .i64 sc, .string sh, .string st]) (D8 role perm owner x.1.2.1 g sc sh st) rfl hR rfl rfl Try.info55 (by simp [D8]) (by simp [D8, Value.oneCell']) ?_; intro W8 hR8' hg8; have hR8 : Blk W8 (A + 3) (D8 role perm owner x.1.2.1 g sc sh st) := hR8'; clear hR8')
    have hK8 := (hg8.block D hDl (sne (by omega))).trans hK
    refine ⟨by simp, .inl ⟨_, _, rfl, run_takeDeferred hK8, ?_⟩⟩
    have hg9 := grownBy_putObj' W8 D (.deferred none)
    have hR9 := hR8.kept hg9 (sne (by omega))
    obtain ⟨q0, q1, q2, q3, q4, q5, q6, q7⟩ := d8_cells hR9
    have hE9 : Ext w (W8.putObj D (.deferred none)) := grown_ext (grown_ext f7 hg8 (fun k e => by cases e; omega)) hg9 (fun k e => by cases e; have := hx6.size; omega)
    exact ⟨.agg #[.string role, .string perm, .string owner, .int .i64 x.1.2.1, .string g, .int .i64 sc, .string sh, .string st], by simp [results, Try.results45, go_sem, q0, q1, q2, q3, q4, q5, q6, q7], ⟨_, _, _, _, _, HO, rfl, hE9⟩⟩

end Go.Proofs.Qxb6609292a
