/-
  THE ITERATOR of Model.reached for seat b6609292a: the shares.
-/
import Derived.Test.Qxb6609292aIterB
set_option linter.unusedVariables false
set_option linter.unusedSimpArgs false
namespace Go.Proofs.Qxb6609292a
open Go.RowKit Go.Maps
attribute [local go_sem] Oper.semAt_some

theorem vsh_yes {ids : List ByteArray} {ss : List Share} {perm : ByteArray} {s : Nat} {sh : Share} (h : ss[s]? = some sh) (hc : cov perm sh.perms = true) : vsh ids ss perm s = [(posD ids sh.owner, 2, (s : Int))] := by unfold vsh; rw [h]; simp [hc]
theorem vsh_no {ids : List ByteArray} {ss : List Share} {perm : ByteArray} {s : Nat} {sh : Share} (h : ss[s]? = some sh) (hc : cov perm sh.perms = false) : vsh ids ss perm s = [] := by unfold vsh; rw [h]; simp [hc]
theorem flat_take {α β : Type} {f : α → List β} {l : List α} {k : Nat} {x : α} (h : l[k]? = some x) : (l.take (k + 1)).flatMap f = (l.take k).flatMap f ++ f x := by
  have h2 := List.getElem?_eq_some_iff.1 h
  rw [List.take_succ_eq_append_getElem h2.1, h2.2, List.flatMap_append]; simp
theorem flat_pre {α β : Type} (f : α → List β) (l : List α) (k : Nat) : (l.take k).flatMap f <+: l.flatMap f := by
  have : l.flatMap f = (l.take k).flatMap f ++ (l.drop k).flatMap f := by rw [← List.flatMap_append, List.take_append_drop]
  rw [this]; exact List.prefix_append _ _
set_option maxRecDepth 1000000 in
set_option maxHeartbeats 6400000 in
theorem reached_t2 {x4 x7 x8 x9 x10 x11 x12 x13 x14 x15 x16 x17 x18 x19 x20 x21 x22 x23 x24 x25 x26 x27 x28 x29 x30 x31 x32 x33 x34 x35 x36 x37 x38 x39 x40 x41 x42 x43 x44 x45 x46 x47 x48 x49 x50 x51 x52 x53 x54 x55 x56 x57 x58 x59 x60 x61 x62 x63 x64 x65 x66 x67 x68 x69 x70 x71 x72 x73 x74 x75 x76 x77 x78 x79 x80 x81 x82 x83 x84 x85 x86 x87 x88 x89 x90 x91 x92 x93 x94 x95 x96 x97 x98 x99 x100 x101 x102 x103 x104 x105 x106 x107 x108 : Value} (n : Nat) (hn : 1 ≤ n) (l m a1 a2 a3 : Nat) (os : List Org) (rs : List Role) (ss : List Share) (an : List ByteArray) (role perm : ByteArray) (w : World) (hm : ModelAt w m os rs ss an) (hor : okStr role) (hop : okStr perm)
    (hno : os.length ≤ 1048576) (hnr : rs.length ≤ 1048576) (hns : ss.length ≤ 1048576) (hnp : ∀ s ∈ ss, s.perms.length ≤ 1048576) (hends : ∀ q : Nat, q < os.length → Ends (parL os) q) (hv : ∀ r ∈ rs, r.org ∈ os.map Org.id ∧ ∀ g ∈ r.grants, g.scope = 0 ∨ g.scope = 1)
    (c1 : w.cell? ⟨a1, 0, none⟩ = some (.pointer (some ⟨m, 0, none⟩))) (c2 : w.cell? ⟨a2, 0, none⟩ = some (.string role)) (c3 : w.cell? ⟨a3, 0, none⟩ = some (.string perm))
    (J Jx : List Vis → World → Prop) (N : Nat) (hJ : AbidesFrom N J)
    (hY : ∀ pre x W1, VOk rs ss role x → J pre W1 → pre.length < visN os ss → YieldAt Fence.wide (n - 1) Try.prog l (encV x) W1 fun e W' => (e = .returned (.bool true) ∧ J (pre ++ [x]) W' ∧ Kc w.heap.size W1 W') ∨ (e = .returned (.bool false) ∧ Jx (pre ++ [x]) W')) (tz : Int) (own : List Nat) (oa : Option Addr) (oc : Nat) (hO : Hid (OwnR os rs role perm tz own)) (w2 : World) (he : Ext w w2) (hI2 : IntsAt w2 (.slice oa own.length oc) own) (hJs : J (v1 own) w2) :
    Code.wpIn Fence.wide n Try.prog (dropSeq 2 (Try.f70.body.getD .skip)) (bodyPost Try.prog Try.f70 (fun e W' => (∃ v, e = .returned v) ∧ ((∃ xs, VisS os rs ss an role perm xs ∧ J xs W') ∨ (∃ pre, VisP os rs ss an role perm pre ∧ Jx pre W')))) ⟨#[.func (.yield l) #[] #[], .pointer (some ⟨a1, 0, none⟩), .pointer (some ⟨a2, 0, none⟩), .pointer (some ⟨a3, 0, none⟩), x4, .int .i64 tz, .slice oa own.length oc, x7, x8, x9, x10, x11, x12, x13, x14, x15, x16, x17, x18, x19, x20, x21, x22, x23, x24, x25, x26, x27, x28, x29, x30, x31, x32, x33, x34, x35, x36, x37, x38, x39, x40, x41, x42, x43, x44, x45, x46, x47, x48, x49, x50, x51, x52, x53, x54, x55, x56, x57, x58, x59, x60, x61, x62, x63, x64, x65, x66, x67, x68, x69, x70, x71, x72, x73, x74, x75, x76, x77, x78, x79, x80, x81, x82, x83, x84, x85, x86, x87, x88, x89, x90, x91, x92, x93, x94, x95, x96, x97, x98, x99, x100, x101, x102, x103, x104, x105, x106, x107, x108], []⟩ w2 := by
  conv => arg 4; whnf
  have hv' : ∀ r ∈ rs, r.org ∈ os.map Org.id := fun r hr => (hv r hr).1
  have hol := own_len hO.out hv'
  have holt := own_lt hO.out hv'
  have hN : visN os ss = os.length + os.length * ss.length + os.length + 1 := rfl
  have hm0 := hm
  obtain ⟨T, bO, vR, bR, vU, bU, vS, gS, gM, vc, vd, bA, S, M, Nr, Na, hB, hT, hR, hmr, hSh, hgr, hgS, hgM, hma⟩ := hm
  obtain ⟨gi, bp, gp, tS, tM, S1, M1, sv, rv, Nn, t1, t2, t3, t4, t5, t6⟩ := hT.ex
  obtain ⟨sa, sc, rfl, hsc⟩ := hSh.shape
  have k0 : w.cell? ⟨m, 0, none⟩ = some (.pointer (some ⟨T, 0, none⟩)) := hB.cell rfl
  have k6 : w.cell? ⟨m, 6, none⟩ = some (.slice sa ss.length sc) := hB.cell rfl
  have k7 : w.cell? ⟨m, 7, none⟩ = some (.slice (some ⟨gS, 0, none⟩) (os.length + 1) (os.length + 1)) := hB.cell rfl
  have k8 : w.cell? ⟨m, 8, none⟩ = some (.slice (some ⟨gM, 0, none⟩) (off (toKeys (os.map Org.id) ss) os.length) (off (toKeys (os.map Org.id) ss) os.length)) := hB.cell rfl
  have kT : w.cell? ⟨T, 1, none⟩ = some (.map (some bp)) := t1.cell rfl
  have hkl := toKeys_len (os.map Org.id) ss
  clear hB hR hmr hma t1 t3 t4 t5 t6
  gi_wp2_with fail
  gi_loopw [37] (fun i wr => ∃ k : Nat, i = .int .i64 k ∧ k ≤ own.length ∧ J (v1 own ++ (own.take k).flatMap (vgr (os.map Org.id) ss perm)) wr ∧ Ext w wr ∧ IntsAt wr (.slice oa own.length oc) own) (fun i _ => own.length - (intOf i).toNat)
  case atStart => exact ⟨0, rfl, Nat.zero_le _, by simpa using hJs, he, hI2⟩
  case round =>
    clear hJs he hI2
    obtain ⟨k, rfl, hk, hJs, he, hI⟩ := hrel
    by_cases hlt : k < own.length
    · obtain ⟨p, hp⟩ := get_at own k hlt
      obtain ⟨a', cap', hv'', hcells⟩ := hI
      cases hv''
      obtain ⟨bb, o, rfl, hc⟩ := hcells k p hp
      have hI' : IntsAt wr (.slice (some ⟨bb, o, none⟩) own.length oc) own := ⟨_, oc, rfl, hcells⟩
      have hpl := holt p (List.mem_of_getElem? hp)
      have HF : Hid ((own.take (k + 1)).flatMap (vgr (os.map Org.id) ss perm) = (own.take k).flatMap (vgr (os.map Org.id) ss perm) ++ vgr (os.map Org.id) ss perm p) := flat_take hp
      have HPR : Hid ((own.take (k + 1)).flatMap (vgr (os.map Org.id) ss perm) <+: v2 (os.map Org.id) ss perm own) := flat_pre _ _ _
      have hc' : wr.cell? ⟨bb, o + k, none⟩ = some (.int .i64 (p : Int)) := hc
      have hlen1 := fmap_len (vgr (os.map Org.id) ss perm) ss.length (vgr_len (os.map Org.id) ss perm) (own.take k)
      have hb1 : (own.take k).length * ss.length + ss.length ≤ os.length * ss.length := by
        rw [List.length_take, Nat.min_eq_left hk, ← Nat.succ_mul]
        exact Nat.mul_le_mul_right _ (by omega)
      have hk1 := kids_le (toKeys (os.map Org.id) ss) p
      rw [hkl] at hk1
      have d1 := he.cell c1
      have d7 := he.cell k7
      have d8 := he.cell k8
      have hcall := of_any (toKeys (os.map Org.id) ss) os.length p gS gM S M wr hgr (hgS.ext he) (hgM.ext he) hpl hno (by rw [hkl]; exact hns)
      clear hp hcells hc
      rename World => wo
      gi_wp2_with (refine ⟨trivial, ?_⟩; gi_at_call 72; refine (callsIn_wide.2 hcall).mono ?_; rintro e w4 ⟨og, cg, rfl, hkc, hx4⟩)
      have hJ4 := abides_ext hJ hJs hx4
      have hK4 : Kc w.heap.size wo w4 := Kc.of_ext hx4 he.size
      clear hcall d1 d7 d8 hc' hJs
      gi_loopw [48] (fun i wr => ∃ j : Nat, i = .int .i64 j ∧ j ≤ (kids (toKeys (os.map Org.id) ss) p).length ∧ J (v1 own ++ (own.take k).flatMap (vgr (os.map Org.id) ss perm) ++ ((kids (toKeys (os.map Org.id) ss) p).take j).flatMap (vsh (os.map Org.id) ss perm)) wr ∧ Kc w.heap.size wo wr) (fun i _ => (kids (toKeys (os.map Org.id) ss) p).length - (intOf i).toNat)
      case atStart => exact ⟨0, rfl, Nat.zero_le _, by simpa using hJ4, hK4⟩
      case round =>
        clear hJ4 hK4 hx4
        obtain ⟨j, rfl, hj, hJs, hKw⟩ := hrel
        have hew := he.kc hKw
        by_cases hltj : j < (kids (toKeys (os.map Org.id) ss) p).length
        · obtain ⟨s, hs⟩ := get_at (kids (toKeys (os.map Org.id) ss) p) j hltj
          have cs : wr.cell? ⟨gM, og + j, none⟩ = some (.int .i64 (s : Int)) := hKw.cell (hkc j s hs)
          have hsl : s < ss.length := by
            have := (List.getElem?_eq_some_iff.1 (kids_at hs).1).1
            rw [hkl] at this; exact this
          obtain ⟨sh, hsh⟩ := get_at ss s hsl
          obtain ⟨sb, so, rfl, x0, x1, x2, x3, x4, ok⟩ := hSh.at hsh
          have hst := ok.2.2.2.2
          obtain ⟨pa, pc, hpv, hpc⟩ := hst.shape
          rw [hpv] at x3 hst
          have y0 := hew.cell x0
          have y1 := hew.cell x1
          have y2 := hew.cell x2
          have y3 := hew.cell x3
          have y4 := hew.cell x4
          have d1 := hew.cell c1
          have d6 := hew.cell k6
          have hxa := Ext.alloc wr (.cells #[.string sh.id, .string sh.owner, .string sh.dest, .slice pa sh.perms.length pc, .string sh.by_] 103)
          have hBx := Blk.alloc wr [.string sh.id, .string sh.owner, .string sh.dest, .slice pa sh.perms.length pc, .string sh.by_] 103
          have hea := (hew.trans hxa).drawn
          have hSx : ∀ W1, Ext (wr.alloc (.cells #[.string sh.id, .string sh.owner, .string sh.dest, .slice pa sh.perms.length pc, .string sh.by_] 103)) W1 → (fun w' : World => w'.cell? ⟨wr.heap.size, 0, none⟩ = some (.string sh.id) ∧ w'.cell? ⟨wr.heap.size, 1, none⟩ = some (.string sh.owner) ∧ w'.cell? ⟨wr.heap.size, 2, none⟩ = some (.string sh.dest) ∧ w'.cell? ⟨wr.heap.size, 3, none⟩ = some (.slice pa sh.perms.length pc) ∧ w'.cell? ⟨wr.heap.size, 4, none⟩ = some (.string sh.by_) ∧ w'.cell? ⟨a3, 0, none⟩ = some (.string perm) ∧ w'.cell? ⟨a1, 0, none⟩ = some (.pointer (some ⟨m, 0, none⟩)) ∧ w'.cell? ⟨m, 0, none⟩ = some (.pointer (some ⟨T, 0, none⟩)) ∧ w'.cell? ⟨T, 1, none⟩ = some (.map (some bp)) ∧ (Instr.lookup 58 (.map (some bp)) (.string sh.owner) false).run Try.prog w' = .ok (.int .i64 (posD (os.map Org.id) sh.owner)) w') W1 := fun W1 hx => ⟨(hBx.ext hx).cell (i := 0) rfl, (hBx.ext hx).cell (i := 1) rfl, (hBx.ext hx).cell (i := 2) rfl, (hBx.ext hx).cell (i := 3) rfl, (hBx.ext hx).cell (i := 4) rfl, ((hew.trans hxa).trans hx).cell c3, ((hew.trans hxa).trans hx).cell c1, ((hew.trans hxa).trans hx).cell k0, ((hew.trans hxa).trans hx).cell kT, (t2.ext ((hew.trans hxa).trans hx)).posD ok.2.1⟩
          have hcv := shCovers_any sh.id sh.owner sh.dest sh.by_ (.slice pa sh.perms.length pc) sh.perms perm _ (hst.ext hea) (hnp sh (List.mem_of_getElem? hsh))
          have hft : ((kids (toKeys (os.map Org.id) ss) p).take (j + 1)).flatMap (vsh (os.map Org.id) ss perm) = ((kids (toKeys (os.map Org.id) ss) p).take j).flatMap (vsh (os.map Org.id) ss perm) ++ vsh (os.map Org.id) ss perm s := flat_take hs
          have HFP : Hid (((kids (toKeys (os.map Org.id) ss) p).take (j + 1)).flatMap (vsh (os.map Org.id) ss perm) <+: vgr (os.map Org.id) ss perm p) := flat_pre _ _ _
          have hlen2 := fmap_len (vsh (os.map Org.id) ss perm) 1 (vsh_len (os.map Org.id) ss perm) ((kids (toKeys (os.map Org.id) ss) p).take j)
          rw [List.length_take] at hlen2
          cases hcb : cov perm sh.perms
          · rw [hcb] at hcv
            rw [vsh_no hsh hcb, List.append_nil] at hft
            have HFT : Hid (((kids (toKeys (os.map Org.id) ss) p).take (j + 1)).flatMap (vsh (os.map Org.id) ss perm) = ((kids (toKeys (os.map Org.id) ss) p).take j).flatMap (vsh (os.map Org.id) ss perm)) := hft
            have hS0 := hSx _ (Ext.refl _).drawn
            have HSH : Hid (ss[s]? = some sh) := hsh
            clear hs hsh x0 x1 x2 x3 x4 hpv hft
            gi_upto_region 13 with fail
            refine wpIn_region_S (fun w' => w'.cell? ⟨wr.heap.size, 0, none⟩ = some (.string sh.id) ∧ w'.cell? ⟨wr.heap.size, 1, none⟩ = some (.string sh.owner) ∧ w'.cell? ⟨wr.heap.size, 2, none⟩ = some (.string sh.dest) ∧ w'.cell? ⟨wr.heap.size, 3, none⟩ = some (.slice pa sh.perms.length pc) ∧ w'.cell? ⟨wr.heap.size, 4, none⟩ = some (.string sh.by_) ∧ w'.cell? ⟨a3, 0, none⟩ = some (.string perm) ∧ w'.cell? ⟨a1, 0, none⟩ = some (.pointer (some ⟨m, 0, none⟩)) ∧ w'.cell? ⟨m, 0, none⟩ = some (.pointer (some ⟨T, 0, none⟩)) ∧ w'.cell? ⟨T, 1, none⟩ = some (.map (some bp)) ∧ (Instr.lookup 58 (.map (some bp)) (.string sh.owner) false).run Try.prog w' = .ok (.int .i64 (posD (os.map Org.id) sh.owner)) w') 99 (by kernel_rfl) ?_
            change wpS _ _ _ _ _ _ _ 20 #[false, false, false, false, false, false, false, false, false, false, false, false, false, false, false, false, false, false, false, false] _ _
            refine wpS_take (i := 0) (v := .agg #[.string sh.id, .string sh.owner, .string sh.dest, .slice pa sh.perms.length pc, .string sh.by_]) (fun _ => trivial) (by kernel_rfl) rfl (by kernel_rfl) (by kernel_rfl) (by kernel_rfl) (by kernel_rfl) (by kernel_rfl) (fun _ _ _ h => h) (Or.inl ⟨by kernel_rfl, ?_⟩) hS0 ?_
            · intro w' hSw; obtain ⟨s0, s1, s2, s3, s4, s5, s6, s7, s8, s9⟩ := hSw; go_simp
            simp only [Act.put, List.getElem_toArray, List.getElem_cons_zero, List.getElem_cons_succ, List.setIfInBounds_toArray, List.set_cons_zero, List.set_cons_succ]
            refine wpS_take (i := 1) (v := .string perm) (fun _ => trivial) (by kernel_rfl) rfl (by kernel_rfl) (by kernel_rfl) (by kernel_rfl) (by kernel_rfl) (by kernel_rfl) (fun _ _ _ h => h) (Or.inl ⟨by kernel_rfl, ?_⟩) hS0 ?_
            · intro w' hSw; obtain ⟨s0, s1, s2, s3, s4, s5, s6, s7, s8, s9⟩ := hSw; go_simp
            simp only [Act.put, List.getElem_toArray, List.getElem_cons_zero, List.getElem_cons_succ, List.setIfInBounds_toArray, List.set_cons_zero, List.set_cons_succ]
            refine wpS_one (i := 2) (by kernel_rfl) rfl (by kernel_rfl) (fun K hK => ?_)
            gi_wp2_with (refine ⟨trivial, ?_⟩; gi_at_call 73; refine (callsIn_wide.2 hcv).mono ?_; rintro e wc ⟨rfl, hxc⟩)
            refine hK _ _ (Or.inl (hSx _ ((Ext.refl _).drawn.trans hxc))) ?_
            clear hK
            have hS2 := hSx _ ((Ext.refl _).drawn.trans hxc)
            simp only [Act.put, List.getElem_toArray, List.getElem_cons_zero, List.getElem_cons_succ, List.setIfInBounds_toArray, List.set_cons_zero, List.set_cons_succ]
            refine wpS_take (i := 3) (v := .bool false) (fun _ => trivial) (by kernel_rfl) rfl (by kernel_rfl) (by kernel_rfl) (by kernel_rfl) (by kernel_rfl) (by kernel_rfl) (fun _ _ _ h => h) (Or.inl ⟨by kernel_rfl, ?_⟩) hS2 ?_
            · intro w' hSw; obtain ⟨s0, s1, s2, s3, s4, s5, s6, s7, s8, s9⟩ := hSw; go_simp
            simp only [Act.put, List.getElem_toArray, List.getElem_cons_zero, List.getElem_cons_succ, List.setIfInBounds_toArray, List.set_cons_zero, List.set_cons_succ]
            refine wpS_take (i := 4) (v := undef) (fun _ => trivial) (by kernel_rfl) rfl (by kernel_rfl) (by kernel_rfl) (by kernel_rfl) (by kernel_rfl) (by kernel_rfl) (fun _ _ _ h => h) (Or.inr ⟨by kernel_rfl, rfl⟩) hS2 ?_
            simp only [Act.put, List.getElem_toArray, List.getElem_cons_zero, List.getElem_cons_succ, List.setIfInBounds_toArray, List.set_cons_zero, List.set_cons_succ]
            refine wpS_take (i := 5) (v := undef) (fun _ => trivial) (by kernel_rfl) rfl (by kernel_rfl) (by kernel_rfl) (by kernel_rfl) (by kernel_rfl) (by kernel_rfl) (fun _ _ _ h => h) (Or.inr ⟨by kernel_rfl, rfl⟩) hS2 ?_
            simp only [Act.put, List.getElem_toArray, List.getElem_cons_zero, List.getElem_cons_succ, List.setIfInBounds_toArray, List.set_cons_zero, List.set_cons_succ]
            refine wpS_take (i := 6) (v := undef) (fun _ => trivial) (by kernel_rfl) rfl (by kernel_rfl) (by kernel_rfl) (by kernel_rfl) (by kernel_rfl) (by kernel_rfl) (fun _ _ _ h => h) (Or.inr ⟨by kernel_rfl, rfl⟩) hS2 ?_
            simp only [Act.put, List.getElem_toArray, List.getElem_cons_zero, List.getElem_cons_succ, List.setIfInBounds_toArray, List.set_cons_zero, List.set_cons_succ]
            refine wpS_take (i := 7) (v := undef) (fun _ => trivial) (by kernel_rfl) rfl (by kernel_rfl) (by kernel_rfl) (by kernel_rfl) (by kernel_rfl) (by kernel_rfl) (fun _ _ _ h => h) (Or.inr ⟨by kernel_rfl, rfl⟩) hS2 ?_
            simp only [Act.put, List.getElem_toArray, List.getElem_cons_zero, List.getElem_cons_succ, List.setIfInBounds_toArray, List.set_cons_zero, List.set_cons_succ]
            refine wpS_take (i := 8) (v := undef) (fun _ => trivial) (by kernel_rfl) rfl (by kernel_rfl) (by kernel_rfl) (by kernel_rfl) (by kernel_rfl) (by kernel_rfl) (fun _ _ _ h => h) (Or.inr ⟨by kernel_rfl, rfl⟩) hS2 ?_
            simp only [Act.put, List.getElem_toArray, List.getElem_cons_zero, List.getElem_cons_succ, List.setIfInBounds_toArray, List.set_cons_zero, List.set_cons_succ]
            refine wpS_take (i := 9) (v := undef) (fun _ => trivial) (by kernel_rfl) rfl (by kernel_rfl) (by kernel_rfl) (by kernel_rfl) (by kernel_rfl) (by kernel_rfl) (fun _ _ _ h => h) (Or.inr ⟨by kernel_rfl, rfl⟩) hS2 ?_
            simp only [Act.put, List.getElem_toArray, List.getElem_cons_zero, List.getElem_cons_succ, List.setIfInBounds_toArray, List.set_cons_zero, List.set_cons_succ]
            refine wpS_take (i := 10) (v := undef) (fun _ => trivial) (by kernel_rfl) rfl (by kernel_rfl) (by kernel_rfl) (by kernel_rfl) (by kernel_rfl) (by kernel_rfl) (fun _ _ _ h => h) (Or.inr ⟨by kernel_rfl, rfl⟩) hS2 ?_
            simp only [Act.put, List.getElem_toArray, List.getElem_cons_zero, List.getElem_cons_succ, List.setIfInBounds_toArray, List.set_cons_zero, List.set_cons_succ]
            refine wpS_take (i := 11) (v := undef) (fun _ => trivial) (by kernel_rfl) rfl (by kernel_rfl) (by kernel_rfl) (by kernel_rfl) (by kernel_rfl) (by kernel_rfl) (fun _ _ _ h => h) (Or.inr ⟨by kernel_rfl, rfl⟩) hS2 ?_
            simp only [Act.put, List.getElem_toArray, List.getElem_cons_zero, List.getElem_cons_succ, List.setIfInBounds_toArray, List.set_cons_zero, List.set_cons_succ]
            refine wpS_take (i := 12) (v := undef) (fun _ => trivial) (by kernel_rfl) rfl (by kernel_rfl) (by kernel_rfl) (by kernel_rfl) (by kernel_rfl) (by kernel_rfl) (fun _ _ _ h => h) (Or.inr ⟨by kernel_rfl, rfl⟩) hS2 ?_
            simp only [Act.put, List.getElem_toArray, List.getElem_cons_zero, List.getElem_cons_succ, List.setIfInBounds_toArray, List.set_cons_zero, List.set_cons_succ]
            refine wpS_take (i := 13) (v := undef) (fun _ => trivial) (by kernel_rfl) rfl (by kernel_rfl) (by kernel_rfl) (by kernel_rfl) (by kernel_rfl) (by kernel_rfl) (fun _ _ _ h => h) (Or.inr ⟨by kernel_rfl, rfl⟩) hS2 ?_
            simp only [Act.put, List.getElem_toArray, List.getElem_cons_zero, List.getElem_cons_succ, List.setIfInBounds_toArray, List.set_cons_zero, List.set_cons_succ]
            refine wpS_take (i := 14) (v := undef) (fun _ => trivial) (by kernel_rfl) rfl (by kernel_rfl) (by kernel_rfl) (by kernel_rfl) (by kernel_rfl) (by kernel_rfl) (fun _ _ _ h => h) (Or.inr ⟨by kernel_rfl, rfl⟩) hS2 ?_
            simp only [Act.put, List.getElem_toArray, List.getElem_cons_zero, List.getElem_cons_succ, List.setIfInBounds_toArray, List.set_cons_zero, List.set_cons_succ]
            refine wpS_take (i := 15) (v := undef) (fun _ => trivial) (by kernel_rfl) rfl (by kernel_rfl) (by kernel_rfl) (by kernel_rfl) (by kernel_rfl) (by kernel_rfl) (fun _ _ _ h => h) (Or.inr ⟨by kernel_rfl, rfl⟩) hS2 ?_
            simp only [Act.put, List.getElem_toArray, List.getElem_cons_zero, List.getElem_cons_succ, List.setIfInBounds_toArray, List.set_cons_zero, List.set_cons_succ]
            refine wpS_take (i := 16) (v := undef) (fun _ => trivial) (by kernel_rfl) rfl (by kernel_rfl) (by kernel_rfl) (by kernel_rfl) (by kernel_rfl) (by kernel_rfl) (fun _ _ _ h => h) (Or.inr ⟨by kernel_rfl, rfl⟩) hS2 ?_
            simp only [Act.put, List.getElem_toArray, List.getElem_cons_zero, List.getElem_cons_succ, List.setIfInBounds_toArray, List.set_cons_zero, List.set_cons_succ]
            refine wpS_take (i := 17) (v := undef) (fun _ => trivial) (by kernel_rfl) rfl (by kernel_rfl) (by kernel_rfl) (by kernel_rfl) (by kernel_rfl) (by kernel_rfl) (fun _ _ _ h => h) (Or.inr ⟨by kernel_rfl, rfl⟩) hS2 ?_
            simp only [Act.put, List.getElem_toArray, List.getElem_cons_zero, List.getElem_cons_succ, List.setIfInBounds_toArray, List.set_cons_zero, List.set_cons_succ]
            refine wpS_take (i := 18) (v := undef) (fun _ => trivial) (by kernel_rfl) rfl (by kernel_rfl) (by kernel_rfl) (by kernel_rfl) (by kernel_rfl) (by kernel_rfl) (fun _ _ _ h => h) (Or.inr ⟨by kernel_rfl, rfl⟩) hS2 ?_
            simp only [Act.put, List.getElem_toArray, List.getElem_cons_zero, List.getElem_cons_succ, List.setIfInBounds_toArray, List.set_cons_zero, List.set_cons_succ]
            refine wpS_take (i := 19) (v := .bool false) (fun _ => trivial) (by kernel_rfl) rfl (by kernel_rfl) (by kernel_rfl) (by kernel_rfl) (by kernel_rfl) (by kernel_rfl) (fun _ _ _ h => h) (Or.inl ⟨by kernel_rfl, ?_⟩) hS2 ?_
            · intro w' hSw; obtain ⟨s0, s1, s2, s3, s4, s5, s6, s7, s8, s9⟩ := hSw; go_simp
            simp only [Act.put, List.getElem_toArray, List.getElem_cons_zero, List.getElem_cons_succ, List.setIfInBounds_toArray, List.set_cons_zero, List.set_cons_succ]
            refine wpS_done (by kernel_rfl) ?_ _
            gi_wp2
            go_roundw
            case rel => exact ⟨j + 1, by go_num, by omega, by rw [HFT.out]; exact abides_ext hJ hJs (hxa.trans ((Ext.refl _).drawn.trans hxc)), hKw.trans (Kc.of_ext (hxa.trans ((Ext.refl _).drawn.trans hxc)) hew.size)⟩
            case measure => simp [intOf]; omega
          · rw [hcb] at hcv
            rw [vsh_yes hsh hcb] at hft
            have HFT : Hid (((kids (toKeys (os.map Org.id) ss) p).take (j + 1)).flatMap (vsh (os.map Org.id) ss perm) = ((kids (toKeys (os.map Org.id) ss) p).take j).flatMap (vsh (os.map Org.id) ss perm) ++ [(posD (os.map Org.id) sh.owner, 2, (s : Int))]) := hft
            have hS0 := hSx _ (Ext.refl _).drawn
            have HSH : Hid (ss[s]? = some sh) := hsh
            clear hs hsh x0 x1 x2 x3 x4 hpv hft
            gi_upto_region 13 with fail
            refine wpIn_region_S (fun w' => w'.cell? ⟨wr.heap.size, 0, none⟩ = some (.string sh.id) ∧ w'.cell? ⟨wr.heap.size, 1, none⟩ = some (.string sh.owner) ∧ w'.cell? ⟨wr.heap.size, 2, none⟩ = some (.string sh.dest) ∧ w'.cell? ⟨wr.heap.size, 3, none⟩ = some (.slice pa sh.perms.length pc) ∧ w'.cell? ⟨wr.heap.size, 4, none⟩ = some (.string sh.by_) ∧ w'.cell? ⟨a3, 0, none⟩ = some (.string perm) ∧ w'.cell? ⟨a1, 0, none⟩ = some (.pointer (some ⟨m, 0, none⟩)) ∧ w'.cell? ⟨m, 0, none⟩ = some (.pointer (some ⟨T, 0, none⟩)) ∧ w'.cell? ⟨T, 1, none⟩ = some (.map (some bp)) ∧ (Instr.lookup 58 (.map (some bp)) (.string sh.owner) false).run Try.prog w' = .ok (.int .i64 (posD (os.map Org.id) sh.owner)) w') 17 (by kernel_rfl) ?_
            change wpS _ _ _ _ _ _ _ 20 #[false, false, false, false, false, false, false, false, false, false, false, false, false, false, false, false, false, false, false, false] _ _
            refine wpS_take (i := 0) (v := .agg #[.string sh.id, .string sh.owner, .string sh.dest, .slice pa sh.perms.length pc, .string sh.by_]) (fun _ => trivial) (by kernel_rfl) rfl (by kernel_rfl) (by kernel_rfl) (by kernel_rfl) (by kernel_rfl) (by kernel_rfl) (fun _ _ _ h => h) (Or.inl ⟨by kernel_rfl, ?_⟩) hS0 ?_
            · intro w' hSw; obtain ⟨s0, s1, s2, s3, s4, s5, s6, s7, s8, s9⟩ := hSw; go_simp
            simp only [Act.put, List.getElem_toArray, List.getElem_cons_zero, List.getElem_cons_succ, List.setIfInBounds_toArray, List.set_cons_zero, List.set_cons_succ]
            refine wpS_take (i := 1) (v := .string perm) (fun _ => trivial) (by kernel_rfl) rfl (by kernel_rfl) (by kernel_rfl) (by kernel_rfl) (by kernel_rfl) (by kernel_rfl) (fun _ _ _ h => h) (Or.inl ⟨by kernel_rfl, ?_⟩) hS0 ?_
            · intro w' hSw; obtain ⟨s0, s1, s2, s3, s4, s5, s6, s7, s8, s9⟩ := hSw; go_simp
            simp only [Act.put, List.getElem_toArray, List.getElem_cons_zero, List.getElem_cons_succ, List.setIfInBounds_toArray, List.set_cons_zero, List.set_cons_succ]
            refine wpS_one (i := 2) (by kernel_rfl) rfl (by kernel_rfl) (fun K hK => ?_)
            gi_wp2_with (refine ⟨trivial, ?_⟩; gi_at_call 73; refine (callsIn_wide.2 hcv).mono ?_; rintro e wc ⟨rfl, hxc⟩)
            refine hK _ _ (Or.inl (hSx _ ((Ext.refl _).drawn.trans hxc))) ?_
            clear hK
            have hS2 := hSx _ ((Ext.refl _).drawn.trans hxc)
            have hJc := abides_ext hJ hJs (hxa.trans ((Ext.refl _).drawn.trans hxc))
            obtain ⟨fn, tmps, assign, body, hy, hRd⟩ := hY _ (posD (os.map Org.id) sh.owner, 2, (s : Int)) wc (Or.inl ⟨rfl, s, sh, rfl, HSH.out⟩) hJc (by rw [hN]; simp only [List.length_append, v1, List.length_map]; omega)
            simp only [encV] at hy
            simp only [Act.put, List.getElem_toArray, List.getElem_cons_zero, List.getElem_cons_succ, List.setIfInBounds_toArray, List.set_cons_zero, List.set_cons_succ]
            refine wpS_take (i := 3) (v := .bool true) (fun _ => trivial) (by kernel_rfl) rfl (by kernel_rfl) (by kernel_rfl) (by kernel_rfl) (by kernel_rfl) (by kernel_rfl) (fun _ _ _ h => h) (Or.inl ⟨by kernel_rfl, ?_⟩) hS2 ?_
            · intro w' hSw; obtain ⟨s0, s1, s2, s3, s4, s5, s6, s7, s8, s9⟩ := hSw; go_simp
            simp only [Act.put, List.getElem_toArray, List.getElem_cons_zero, List.getElem_cons_succ, List.setIfInBounds_toArray, List.set_cons_zero, List.set_cons_succ]
            refine wpS_take (i := 4) (v := .func (.yield l) #[] #[]) (fun _ => trivial) (by kernel_rfl) rfl (by kernel_rfl) (by kernel_rfl) (by kernel_rfl) (by kernel_rfl) (by kernel_rfl) (fun _ _ _ h => h) (Or.inl ⟨by kernel_rfl, ?_⟩) hS2 ?_
            · intro w' hSw; obtain ⟨s0, s1, s2, s3, s4, s5, s6, s7, s8, s9⟩ := hSw; go_simp
            simp only [Act.put, List.getElem_toArray, List.getElem_cons_zero, List.getElem_cons_succ, List.setIfInBounds_toArray, List.set_cons_zero, List.set_cons_succ]
            refine wpS_take (i := 5) (v := .pointer (some ⟨m, 0, none⟩)) (fun _ => trivial) (by kernel_rfl) rfl (by kernel_rfl) (by kernel_rfl) (by kernel_rfl) (by kernel_rfl) (by kernel_rfl) (fun _ _ _ h => h) (Or.inl ⟨by kernel_rfl, ?_⟩) hS2 ?_
            · intro w' hSw; obtain ⟨s0, s1, s2, s3, s4, s5, s6, s7, s8, s9⟩ := hSw; go_simp
            simp only [Act.put, List.getElem_toArray, List.getElem_cons_zero, List.getElem_cons_succ, List.setIfInBounds_toArray, List.set_cons_zero, List.set_cons_succ]
            refine wpS_take (i := 6) (v := .pointer (some ⟨m, 0, none⟩)) (fun _ => trivial) (by kernel_rfl) rfl (by kernel_rfl) (by kernel_rfl) (by kernel_rfl) (by kernel_rfl) (by kernel_rfl) (fun _ _ _ h => h) (Or.inl ⟨by kernel_rfl, ?_⟩) hS2 ?_
            · intro w' hSw; obtain ⟨s0, s1, s2, s3, s4, s5, s6, s7, s8, s9⟩ := hSw; go_simp
            simp only [Act.put, List.getElem_toArray, List.getElem_cons_zero, List.getElem_cons_succ, List.setIfInBounds_toArray, List.set_cons_zero, List.set_cons_succ]
            refine wpS_take (i := 7) (v := .pointer (some ⟨m, 0, none⟩)) (fun _ => trivial) (by kernel_rfl) rfl (by kernel_rfl) (by kernel_rfl) (by kernel_rfl) (by kernel_rfl) (by kernel_rfl) (fun _ _ _ h => h) (Or.inl ⟨by kernel_rfl, ?_⟩) hS2 ?_
            · intro w' hSw; obtain ⟨s0, s1, s2, s3, s4, s5, s6, s7, s8, s9⟩ := hSw; go_simp
            simp only [Act.put, List.getElem_toArray, List.getElem_cons_zero, List.getElem_cons_succ, List.setIfInBounds_toArray, List.set_cons_zero, List.set_cons_succ]
            refine wpS_take (i := 8) (v := .pointer (some ⟨T, 0, none⟩)) (fun _ => trivial) (by kernel_rfl) rfl (by kernel_rfl) (by kernel_rfl) (by kernel_rfl) (by kernel_rfl) (by kernel_rfl) (fun _ _ _ h => h) (Or.inl ⟨by kernel_rfl, ?_⟩) hS2 ?_
            · intro w' hSw; obtain ⟨s0, s1, s2, s3, s4, s5, s6, s7, s8, s9⟩ := hSw; go_simp
            simp only [Act.put, List.getElem_toArray, List.getElem_cons_zero, List.getElem_cons_succ, List.setIfInBounds_toArray, List.set_cons_zero, List.set_cons_succ]
            refine wpS_take (i := 9) (v := .pointer (some ⟨T, 0, none⟩)) (fun _ => trivial) (by kernel_rfl) rfl (by kernel_rfl) (by kernel_rfl) (by kernel_rfl) (by kernel_rfl) (by kernel_rfl) (fun _ _ _ h => h) (Or.inl ⟨by kernel_rfl, ?_⟩) hS2 ?_
            · intro w' hSw; obtain ⟨s0, s1, s2, s3, s4, s5, s6, s7, s8, s9⟩ := hSw; go_simp
            simp only [Act.put, List.getElem_toArray, List.getElem_cons_zero, List.getElem_cons_succ, List.setIfInBounds_toArray, List.set_cons_zero, List.set_cons_succ]
            refine wpS_take (i := 10) (v := .pointer (some ⟨T, 1, none⟩)) (fun _ => trivial) (by kernel_rfl) rfl (by kernel_rfl) (by kernel_rfl) (by kernel_rfl) (by kernel_rfl) (by kernel_rfl) (fun _ _ _ h => h) (Or.inl ⟨by kernel_rfl, ?_⟩) hS2 ?_
            · intro w' hSw; obtain ⟨s0, s1, s2, s3, s4, s5, s6, s7, s8, s9⟩ := hSw; go_simp
            simp only [Act.put, List.getElem_toArray, List.getElem_cons_zero, List.getElem_cons_succ, List.setIfInBounds_toArray, List.set_cons_zero, List.set_cons_succ]
            refine wpS_take (i := 11) (v := .map (some bp)) (fun _ => trivial) (by kernel_rfl) rfl (by kernel_rfl) (by kernel_rfl) (by kernel_rfl) (by kernel_rfl) (by kernel_rfl) (fun _ _ _ h => h) (Or.inl ⟨by kernel_rfl, ?_⟩) hS2 ?_
            · intro w' hSw; obtain ⟨s0, s1, s2, s3, s4, s5, s6, s7, s8, s9⟩ := hSw; go_simp
            simp only [Act.put, List.getElem_toArray, List.getElem_cons_zero, List.getElem_cons_succ, List.setIfInBounds_toArray, List.set_cons_zero, List.set_cons_succ]
            refine wpS_take (i := 12) (v := .pointer (some ⟨wr.heap.size, 1, none⟩)) (fun _ => trivial) (by kernel_rfl) rfl (by kernel_rfl) (by kernel_rfl) (by kernel_rfl) (by kernel_rfl) (by kernel_rfl) (fun _ _ _ h => h) (Or.inl ⟨by kernel_rfl, ?_⟩) hS2 ?_
            · intro w' hSw; obtain ⟨s0, s1, s2, s3, s4, s5, s6, s7, s8, s9⟩ := hSw; go_simp
            simp only [Act.put, List.getElem_toArray, List.getElem_cons_zero, List.getElem_cons_succ, List.setIfInBounds_toArray, List.set_cons_zero, List.set_cons_succ]
            refine wpS_take (i := 13) (v := .string sh.owner) (fun _ => trivial) (by kernel_rfl) rfl (by kernel_rfl) (by kernel_rfl) (by kernel_rfl) (by kernel_rfl) (by kernel_rfl) (fun _ _ _ h => h) (Or.inl ⟨by kernel_rfl, ?_⟩) hS2 ?_
            · intro w' hSw; obtain ⟨s0, s1, s2, s3, s4, s5, s6, s7, s8, s9⟩ := hSw; go_simp
            simp only [Act.put, List.getElem_toArray, List.getElem_cons_zero, List.getElem_cons_succ, List.setIfInBounds_toArray, List.set_cons_zero, List.set_cons_succ]
            refine wpS_take (i := 14) (v := .int .i64 (posD (os.map Org.id) sh.owner : Int)) (fun _ => trivial) (by kernel_rfl) rfl (by kernel_rfl) (by kernel_rfl) (by kernel_rfl) (by kernel_rfl) (by kernel_rfl) (fun _ _ _ h => h) (Or.inl ⟨by kernel_rfl, ?_⟩) hS2 ?_
            · intro w' hSw; obtain ⟨s0, s1, s2, s3, s4, s5, s6, s7, s8, s9⟩ := hSw; go_simp
            simp only [Act.put, List.getElem_toArray, List.getElem_cons_zero, List.getElem_cons_succ, List.setIfInBounds_toArray, List.set_cons_zero, List.set_cons_succ]
            refine wpS_take (i := 15) (v := .int .i64 (s : Int)) (fun _ => trivial) (by kernel_rfl) rfl (by kernel_rfl) (by kernel_rfl) (by kernel_rfl) (by kernel_rfl) (by kernel_rfl) (fun _ _ _ h => h) (Or.inl ⟨by kernel_rfl, ?_⟩) hS2 ?_
            · intro w' hSw; obtain ⟨s0, s1, s2, s3, s4, s5, s6, s7, s8, s9⟩ := hSw; go_simp
            simp only [Act.put, List.getElem_toArray, List.getElem_cons_zero, List.getElem_cons_succ, List.setIfInBounds_toArray, List.set_cons_zero, List.set_cons_succ]
            refine wpS_take (i := 16) (v := .agg #[.int .i64 2, .int .i64 (s : Int)]) (fun _ => trivial) (by kernel_rfl) rfl (by kernel_rfl) (by kernel_rfl) (by kernel_rfl) (by kernel_rfl) (by kernel_rfl) (fun _ _ _ h => h) (Or.inl ⟨by kernel_rfl, ?_⟩) hS2 ?_
            · intro w' hSw; obtain ⟨s0, s1, s2, s3, s4, s5, s6, s7, s8, s9⟩ := hSw; go_simp
            simp only [Act.put, List.getElem_toArray, List.getElem_cons_zero, List.getElem_cons_succ, List.setIfInBounds_toArray, List.set_cons_zero, List.set_cons_succ]
            refine wpS_one (i := 17) (by kernel_rfl) rfl (by kernel_rfl) (fun K hK => ?_)
            gi_wp2
            refine hRd.mono ?_
            rintro e W3 (⟨rfl, hJ3, hk3⟩ | ⟨rfl, hJx3⟩)
            · refine hK _ _ (Or.inr (by kernel_rfl)) ?_
              clear hK
              simp only [Act.put, List.getElem_toArray, List.getElem_cons_zero, List.getElem_cons_succ, List.setIfInBounds_toArray, List.set_cons_zero, List.set_cons_succ]
              refine wpS_one (i := 18) (by kernel_rfl) rfl (by kernel_rfl) (fun K hK => ?_)
              go_simp
              refine hK _ _ (Or.inr (by kernel_rfl)) ?_
              clear hK
              simp only [Act.put, List.getElem_toArray, List.getElem_cons_zero, List.getElem_cons_succ, List.setIfInBounds_toArray, List.set_cons_zero, List.set_cons_succ]
              refine wpS_one (i := 19) (by kernel_rfl) rfl (by kernel_rfl) (fun K hK => ?_)
              go_simp
              refine hK _ _ (Or.inr (by kernel_rfl)) ?_
              clear hK
              simp only [Act.put, List.getElem_toArray, List.getElem_cons_zero, List.getElem_cons_succ, List.setIfInBounds_toArray, List.set_cons_zero, List.set_cons_succ]
              refine wpS_done (by kernel_rfl) ?_ _
              gi_wp2
              go_roundw
              case rel => exact ⟨j + 1, by go_num, by omega, by rw [HFT.out, ← List.append_assoc]; exact hJ3, (hKw.trans (Kc.of_ext (hxa.trans ((Ext.refl _).drawn.trans hxc)) hew.size)).trans hk3⟩
              case measure => simp [intOf]; omega
            · refine hK _ _ (Or.inr (by kernel_rfl)) ?_
              clear hK
              simp only [Act.put, List.getElem_toArray, List.getElem_cons_zero, List.getElem_cons_succ, List.setIfInBounds_toArray, List.set_cons_zero, List.set_cons_succ]
              refine wpS_one (i := 18) (by kernel_rfl) rfl (by kernel_rfl) (fun K hK => ?_)
              go_simp
              refine hK _ _ (Or.inr (by kernel_rfl)) ?_
              clear hK
              simp only [Act.put, List.getElem_toArray, List.getElem_cons_zero, List.getElem_cons_succ, List.setIfInBounds_toArray, List.set_cons_zero, List.set_cons_succ]
              refine wpS_one (i := 19) (by kernel_rfl) rfl (by kernel_rfl) (fun K hK => ?_)
              go_simp
              refine hK _ _ (Or.inr (by kernel_rfl)) ?_
              clear hK
              simp only [Act.put, List.getElem_toArray, List.getElem_cons_zero, List.getElem_cons_succ, List.setIfInBounds_toArray, List.set_cons_zero, List.set_cons_succ]
              refine wpS_done (by kernel_rfl) ?_ _
              gi_wp2
              refine bodyPost_ret (results_none rfl _ _ _) rfl ?_
              refine ⟨⟨_, rfl⟩, .inr ⟨_, ⟨tz, own, [], hO.out, Or.inl rfl, ?_⟩, hJx3⟩⟩
              have hpre : v1 own ++ (own.take k).flatMap (vgr (os.map Org.id) ss perm) ++ ((kids (toKeys (os.map Org.id) ss) p).take (j + 1)).flatMap (vsh (os.map Org.id) ss perm) <+: v1 own ++ v2 (os.map Org.id) ss perm own := by
                rw [List.append_assoc]
                refine (List.prefix_append_right_inj _).2 (List.IsPrefix.trans ((List.prefix_append_right_inj _).2 HFP.out) ?_)
                rw [← HF.out]; exact HPR.out
              rw [HFT.out, ← List.append_assoc] at hpre
              exact hpre.trans (List.prefix_append _ _)
        · obtain rfl : j = (kids (toKeys (os.map Org.id) ss) p).length := by omega
          have hfull : ((kids (toKeys (os.map Org.id) ss) p).take (kids (toKeys (os.map Org.id) ss) p).length).flatMap (vsh (os.map Org.id) ss perm) = vgr (os.map Org.id) ss perm p := by rw [List.take_length]; rfl
          rw [hfull, List.append_assoc, ← HF.out] at hJs
          clear hfull
          gi_wp2
          go_roundw
          case rel => exact ⟨k + 1, by go_num, by omega, hJs, hew, hI'.kc hKw⟩
          case measure => simp [intOf]; omega
    · obtain rfl : k = own.length := by omega
      have hfull : (own.take own.length).flatMap (vgr (os.map Org.id) ss perm) = v2 (os.map Org.id) ss perm own := by rw [List.take_length]; rfl
      rw [hfull] at hJs
      clear hfull
      repeat (first | (exact reached_t3 n hn l m a1 a2 a3 os rs ss an role perm w hm0 hor hop hno hnr hns hnp hends hv c1 c2 c3 J Jx N hJ hY tz own hO _ he hJs) | go_values | gi_guarded | gi_step | gi_upon | (simp only [Int.not_lt, Int.not_le] at *; go_simp))

end Go.Proofs.Qxb6609292a
