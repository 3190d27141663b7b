/-
  THE ITERATOR of Model.reached for seat b6609292a: its last part.
-/
import Derived.Test.Qxb6609292aIterP
set_option linter.unusedVariables false
set_option linter.unusedSimpArgs false
namespace Go.Proofs.Qxb6609292a
open Go.RowKit Go.Maps
attribute [local go_sem] Oper.semAt_some

def memB (an : List ByteArray) (s : ByteArray) : Bool := an.any fun t => decide (t = s)
theorem look_set {w : World} {b N : Nat} {an : List ByteArray} (h : SM w 4 b N (setF an)) (s : ByteArray) (hs : okStr s) : (Instr.lookup 86 (.map (some b)) (.string s) false).run Try.prog w = .ok (.bool (memB an s)) w := by
  rw [h.look Try.underlying86 (zero4 w) (plain4 false) s hs]
  unfold memB setF
  cases (an.any fun t => decide (t = s)) <;> rfl
theorem memB_iff {an : List ByteArray} {s : ByteArray} : memB an s = true ↔ s ∈ an := by
  unfold memB
  rw [List.any_eq_true]
  constructor
  · rintro ⟨x, hx, he⟩; simp at he; rw [← he]; exact hx
  · exact fun h => ⟨s, h, by simp⟩
set_option maxRecDepth 1000000 in
set_option maxHeartbeats 6400000 in
theorem reached_t3 {x4 x6 x7 x8 x9 x10 x11 x12 x13 x14 x15 x16 x17 x18 x19 x20 x21 x22 x23 x24 x25 x26 x27 x28 x29 x30 x31 x32 x33 x34 x35 x36 x37 x38 x39 x40 x41 x42 x43 x44 x45 x46 x47 x48 x49 x50 x51 x52 x53 x54 x55 x56 x57 x58 x59 x60 x61 x62 x63 x64 x65 x66 x67 x68 x69 x70 x71 x72 x73 x74 x75 x76 x77 x78 x79 x80 x81 x82 x83 x84 x85 x86 x87 x88 x89 x90 x91 x92 x93 x94 x95 x96 x97 x98 x99 x100 x101 x102 x103 x104 x105 x106 x107 x108 : Value} (n : Nat) (hn : 1 ≤ n) (l m a1 a2 a3 : Nat) (os : List Org) (rs : List Role) (ss : List Share) (an : List ByteArray) (role perm : ByteArray) (w : World) (hm : ModelAt w m os rs ss an) (hor : okStr role) (hop : okStr perm)
    (hno : os.length ≤ 1048576) (hnr : rs.length ≤ 1048576) (hns : ss.length ≤ 1048576) (hnp : ∀ s ∈ ss, s.perms.length ≤ 1048576) (hends : ∀ q : Nat, q < os.length → Ends (parL os) q) (hv : ∀ r ∈ rs, r.org ∈ os.map Org.id ∧ ∀ g ∈ r.grants, g.scope = 0 ∨ g.scope = 1)
    (c1 : w.cell? ⟨a1, 0, none⟩ = some (.pointer (some ⟨m, 0, none⟩))) (c2 : w.cell? ⟨a2, 0, none⟩ = some (.string role)) (c3 : w.cell? ⟨a3, 0, none⟩ = some (.string perm))
    (J Jx : List Vis → World → Prop) (N : Nat) (hJ : AbidesFrom N J)
    (hY : ∀ pre x W1, VOk rs ss role x → J pre W1 → pre.length < visN os ss → YieldAt Fence.wide (n - 1) Try.prog l (encV x) W1 fun e W' => (e = .returned (.bool true) ∧ J (pre ++ [x]) W' ∧ Kc w.heap.size W1 W') ∨ (e = .returned (.bool false) ∧ Jx (pre ++ [x]) W')) (tz : Int) (own : List Nat) (hO : Hid (OwnR os rs role perm tz own)) (w3 : World) (he : Ext w w3) (hJs : J (v1 own ++ v2 (os.map Org.id) ss perm own) w3) :
    Code.wpIn Fence.wide n Try.prog (dropSeq 3 (Try.f70.body.getD .skip)) (bodyPost Try.prog Try.f70 (fun e W' => (∃ v, e = .returned v) ∧ ((∃ xs, VisS os rs ss an role perm xs ∧ J xs W') ∨ (∃ pre, VisP os rs ss an role perm pre ∧ Jx pre W')))) ⟨#[.func (.yield l) #[] #[], .pointer (some ⟨a1, 0, none⟩), .pointer (some ⟨a2, 0, none⟩), .pointer (some ⟨a3, 0, none⟩), x4, .int .i64 tz, x6, x7, x8, x9, x10, x11, x12, x13, x14, x15, x16, x17, x18, x19, x20, x21, x22, x23, x24, x25, x26, x27, x28, x29, x30, x31, x32, x33, x34, x35, x36, x37, x38, x39, x40, x41, x42, x43, x44, x45, x46, x47, x48, x49, x50, x51, x52, x53, x54, x55, x56, x57, x58, x59, x60, x61, x62, x63, x64, x65, x66, x67, x68, x69, x70, x71, x72, x73, x74, x75, x76, x77, x78, x79, x80, x81, x82, x83, x84, x85, x86, x87, x88, x89, x90, x91, x92, x93, x94, x95, x96, x97, x98, x99, x100, x101, x102, x103, x104, x105, x106, x107, x108], []⟩ w3 := by
  conv => arg 4; whnf
  have hv' : ∀ r ∈ rs, r.org ∈ os.map Org.id := fun r hr => (hv r hr).1
  have hol := own_len hO.out hv'
  have hN : visN os ss = os.length + os.length * ss.length + os.length + 1 := rfl
  have hv2 := v2_len (os.map Org.id) ss perm own os.length hol
  obtain ⟨T, bO, vR, bR, vU, bU, vS, gS, gM, vc, vd, bA, S, M, Nr, Na, hB, hT, hR, hmr, hS, hgr, hgS, hgM, hma⟩ := hm
  have k0 : w.cell? ⟨m, 0, none⟩ = some (.pointer (some ⟨T, 0, none⟩)) := hB.cell rfl
  have k11 : w.cell? ⟨m, 11, none⟩ = some (.map (some bA)) := hB.cell rfl
  rcases own_tz hO.out hv' with rfl | ⟨q, rfl, hq⟩
  · have hS1 : (fun _ : World => True) w3.drew := trivial
    gi_upto_region 16 with fail
    refine wpIn_region_S (fun _ => True) 99 (by kernel_rfl) ?_
    change wpS _ _ _ _ _ _ _ 11 #[false, false, false, false, false, false, false, false, false, false, false] _ _
    refine wpS_take (i := 0) (v := .int .i64 (-1)) (fun _ => trivial) (by kernel_rfl) rfl (by kernel_rfl) (by kernel_rfl) (by kernel_rfl) (by kernel_rfl) (by kernel_rfl) (fun _ _ _ h => h) (Or.inl ⟨by kernel_rfl, ?_⟩) trivial ?_
    · intro w' hSw; obtain _ := hSw; go_simp
    simp only [Act.put, List.getElem_toArray, List.getElem_cons_zero, List.getElem_cons_succ, List.setIfInBounds_toArray, List.set_cons_zero, List.set_cons_succ]
    refine wpS_take (i := 1) (v := .bool true) (fun _ => trivial) (by kernel_rfl) rfl (by kernel_rfl) (by kernel_rfl) (by kernel_rfl) (by kernel_rfl) (by kernel_rfl) (fun _ _ _ h => h) (Or.inl ⟨by kernel_rfl, ?_⟩) trivial ?_
    · intro w' hSw; obtain _ := hSw; go_simp
    simp only [Act.put, List.getElem_toArray, List.getElem_cons_zero, List.getElem_cons_succ, List.setIfInBounds_toArray, List.set_cons_zero, List.set_cons_succ]
    refine wpS_take (i := 2) (v := .bool true) (fun _ => trivial) (by kernel_rfl) rfl (by kernel_rfl) (by kernel_rfl) (by kernel_rfl) (by kernel_rfl) (by kernel_rfl) (fun _ _ _ h => h) (Or.inl ⟨by kernel_rfl, ?_⟩) trivial ?_
    · intro w' hSw; obtain _ := hSw; go_simp
    simp only [Act.put, List.getElem_toArray, List.getElem_cons_zero, List.getElem_cons_succ, List.setIfInBounds_toArray, List.set_cons_zero, List.set_cons_succ]
    refine wpS_take (i := 3) (v := undef) (fun _ => trivial) (by kernel_rfl) rfl (by kernel_rfl) (by kernel_rfl) (by kernel_rfl) (by kernel_rfl) (by kernel_rfl) (fun _ _ _ h => h) (Or.inr ⟨by kernel_rfl, rfl⟩) trivial ?_
    simp only [Act.put, List.getElem_toArray, List.getElem_cons_zero, List.getElem_cons_succ, List.setIfInBounds_toArray, List.set_cons_zero, List.set_cons_succ]
    refine wpS_take (i := 4) (v := undef) (fun _ => trivial) (by kernel_rfl) rfl (by kernel_rfl) (by kernel_rfl) (by kernel_rfl) (by kernel_rfl) (by kernel_rfl) (fun _ _ _ h => h) (Or.inr ⟨by kernel_rfl, rfl⟩) trivial ?_
    simp only [Act.put, List.getElem_toArray, List.getElem_cons_zero, List.getElem_cons_succ, List.setIfInBounds_toArray, List.set_cons_zero, List.set_cons_succ]
    refine wpS_take (i := 5) (v := undef) (fun _ => trivial) (by kernel_rfl) rfl (by kernel_rfl) (by kernel_rfl) (by kernel_rfl) (by kernel_rfl) (by kernel_rfl) (fun _ _ _ h => h) (Or.inr ⟨by kernel_rfl, rfl⟩) trivial ?_
    simp only [Act.put, List.getElem_toArray, List.getElem_cons_zero, List.getElem_cons_succ, List.setIfInBounds_toArray, List.set_cons_zero, List.set_cons_succ]
    refine wpS_take (i := 6) (v := undef) (fun _ => trivial) (by kernel_rfl) rfl (by kernel_rfl) (by kernel_rfl) (by kernel_rfl) (by kernel_rfl) (by kernel_rfl) (fun _ _ _ h => h) (Or.inr ⟨by kernel_rfl, rfl⟩) trivial ?_
    simp only [Act.put, List.getElem_toArray, List.getElem_cons_zero, List.getElem_cons_succ, List.setIfInBounds_toArray, List.set_cons_zero, List.set_cons_succ]
    refine wpS_take (i := 7) (v := undef) (fun _ => trivial) (by kernel_rfl) rfl (by kernel_rfl) (by kernel_rfl) (by kernel_rfl) (by kernel_rfl) (by kernel_rfl) (fun _ _ _ h => h) (Or.inr ⟨by kernel_rfl, rfl⟩) trivial ?_
    simp only [Act.put, List.getElem_toArray, List.getElem_cons_zero, List.getElem_cons_succ, List.setIfInBounds_toArray, List.set_cons_zero, List.set_cons_succ]
    refine wpS_take (i := 8) (v := undef) (fun _ => trivial) (by kernel_rfl) rfl (by kernel_rfl) (by kernel_rfl) (by kernel_rfl) (by kernel_rfl) (by kernel_rfl) (fun _ _ _ h => h) (Or.inr ⟨by kernel_rfl, rfl⟩) trivial ?_
    simp only [Act.put, List.getElem_toArray, List.getElem_cons_zero, List.getElem_cons_succ, List.setIfInBounds_toArray, List.set_cons_zero, List.set_cons_succ]
    refine wpS_take (i := 9) (v := undef) (fun _ => trivial) (by kernel_rfl) rfl (by kernel_rfl) (by kernel_rfl) (by kernel_rfl) (by kernel_rfl) (by kernel_rfl) (fun _ _ _ h => h) (Or.inr ⟨by kernel_rfl, rfl⟩) trivial ?_
    simp only [Act.put, List.getElem_toArray, List.getElem_cons_zero, List.getElem_cons_succ, List.setIfInBounds_toArray, List.set_cons_zero, List.set_cons_succ]
    refine wpS_take (i := 10) (v := .bool true) (fun _ => trivial) (by kernel_rfl) rfl (by kernel_rfl) (by kernel_rfl) (by kernel_rfl) (by kernel_rfl) (by kernel_rfl) (fun _ _ _ h => h) (Or.inl ⟨by kernel_rfl, ?_⟩) trivial ?_
    · intro w' hSw; obtain _ := hSw; go_simp
    simp only [Act.put, List.getElem_toArray, List.getElem_cons_zero, List.getElem_cons_succ, List.setIfInBounds_toArray, List.set_cons_zero, List.set_cons_succ]
    refine wpS_done (by kernel_rfl) ?_ _
    gi_wp2
    refine bodyPost_ret (results_none rfl _ _ _) rfl ?_
    exact ⟨⟨_, rfl⟩, .inl ⟨_, ⟨-1, own, [], hO.out, Or.inl ⟨Or.inl (by decide), rfl⟩, by simp [v3]⟩, abides_ext hJ hJs (Ext.refl _).drawn⟩⟩
  · have hlkw := look_set hma perm hop
    have hset : ∀ W1, Ext w W1 → (Instr.lookup 86 (.map (some bA)) (.string perm) false).run Try.prog W1 = .ok (.bool (memB an perm)) W1 := fun W1 h1 => look_set (hma.ext h1) perm hop
    have e3 := he.drawn
    have q0 : ¬ ((q : Int) < 0) := by omega
    clear hlkw
    cases hmb : memB an perm
    · rw [hmb] at hset
      have hS1 : (fun w' : World => w'.cell? ⟨a1, 0, none⟩ = some (.pointer (some ⟨m, 0, none⟩)) ∧ w'.cell? ⟨m, 11, none⟩ = some (.map (some bA)) ∧ w'.cell? ⟨a3, 0, none⟩ = some (.string perm) ∧ (Instr.lookup 86 (.map (some bA)) (.string perm) false).run Try.prog w' = .ok (.bool false) w') w3.drew := ⟨e3.cell c1, e3.cell k11, e3.cell c3, hset _ e3⟩
      clear hset
      gi_upto_region 16 with fail
      refine wpIn_region_S (fun w' => w'.cell? ⟨a1, 0, none⟩ = some (.pointer (some ⟨m, 0, none⟩)) ∧ w'.cell? ⟨m, 11, none⟩ = some (.map (some bA)) ∧ w'.cell? ⟨a3, 0, none⟩ = some (.string perm) ∧ (Instr.lookup 86 (.map (some bA)) (.string perm) false).run Try.prog w' = .ok (.bool false) w') 99 (by kernel_rfl) ?_
      change wpS _ _ _ _ _ _ _ 11 #[false, false, false, false, false, false, false, false, false, false, false] _ _
      refine wpS_take (i := 0) (v := .int .i64 (q : Int)) (fun _ => trivial) (by kernel_rfl) rfl (by kernel_rfl) (by kernel_rfl) (by kernel_rfl) (by kernel_rfl) (by kernel_rfl) (fun _ _ _ h => h) (Or.inl ⟨by kernel_rfl, ?_⟩) hS1 ?_
      · intro w' hSw; obtain ⟨s1, s2, s3, s4⟩ := hSw; go_simp
      simp only [Act.put, List.getElem_toArray, List.getElem_cons_zero, List.getElem_cons_succ, List.setIfInBounds_toArray, List.set_cons_zero, List.set_cons_succ]
      refine wpS_take (i := 1) (v := .bool false) (fun _ => trivial) (by kernel_rfl) rfl (by kernel_rfl) (by kernel_rfl) (by kernel_rfl) (by kernel_rfl) (by kernel_rfl) (fun _ _ _ h => h) (Or.inl ⟨by kernel_rfl, ?_⟩) hS1 ?_
      · intro w' hSw; obtain ⟨s1, s2, s3, s4⟩ := hSw; go_simp
      simp only [Act.put, List.getElem_toArray, List.getElem_cons_zero, List.getElem_cons_succ, List.setIfInBounds_toArray, List.set_cons_zero, List.set_cons_succ]
      refine wpS_take (i := 2) (v := .bool false) (fun _ => trivial) (by kernel_rfl) rfl (by kernel_rfl) (by kernel_rfl) (by kernel_rfl) (by kernel_rfl) (by kernel_rfl) (fun _ _ _ h => h) (Or.inl ⟨by kernel_rfl, ?_⟩) hS1 ?_
      · intro w' hSw; obtain ⟨s1, s2, s3, s4⟩ := hSw; go_simp
      simp only [Act.put, List.getElem_toArray, List.getElem_cons_zero, List.getElem_cons_succ, List.setIfInBounds_toArray, List.set_cons_zero, List.set_cons_succ]
      refine wpS_take (i := 3) (v := .pointer (some ⟨m, 0, none⟩)) (fun _ => trivial) (by kernel_rfl) rfl (by kernel_rfl) (by kernel_rfl) (by kernel_rfl) (by kernel_rfl) (by kernel_rfl) (fun _ _ _ h => h) (Or.inl ⟨by kernel_rfl, ?_⟩) hS1 ?_
      · intro w' hSw; obtain ⟨s1, s2, s3, s4⟩ := hSw; go_simp
      simp only [Act.put, List.getElem_toArray, List.getElem_cons_zero, List.getElem_cons_succ, List.setIfInBounds_toArray, List.set_cons_zero, List.set_cons_succ]
      refine wpS_take (i := 4) (v := .pointer (some ⟨m, 0, none⟩)) (fun _ => trivial) (by kernel_rfl) rfl (by kernel_rfl) (by kernel_rfl) (by kernel_rfl) (by kernel_rfl) (by kernel_rfl) (fun _ _ _ h => h) (Or.inl ⟨by kernel_rfl, ?_⟩) hS1 ?_
      · intro w' hSw; obtain ⟨s1, s2, s3, s4⟩ := hSw; go_simp
      simp only [Act.put, List.getElem_toArray, List.getElem_cons_zero, List.getElem_cons_succ, List.setIfInBounds_toArray, List.set_cons_zero, List.set_cons_succ]
      refine wpS_take (i := 5) (v := .pointer (some ⟨m, 11, none⟩)) (fun _ => trivial) (by kernel_rfl) rfl (by kernel_rfl) (by kernel_rfl) (by kernel_rfl) (by kernel_rfl) (by kernel_rfl) (fun _ _ _ h => h) (Or.inl ⟨by kernel_rfl, ?_⟩) hS1 ?_
      · intro w' hSw; obtain ⟨s1, s2, s3, s4⟩ := hSw; go_simp
      simp only [Act.put, List.getElem_toArray, List.getElem_cons_zero, List.getElem_cons_succ, List.setIfInBounds_toArray, List.set_cons_zero, List.set_cons_succ]
      refine wpS_take (i := 6) (v := .map (some bA)) (fun _ => trivial) (by kernel_rfl) rfl (by kernel_rfl) (by kernel_rfl) (by kernel_rfl) (by kernel_rfl) (by kernel_rfl) (fun _ _ _ h => h) (Or.inl ⟨by kernel_rfl, ?_⟩) hS1 ?_
      · intro w' hSw; obtain ⟨s1, s2, s3, s4⟩ := hSw; go_simp
      simp only [Act.put, List.getElem_toArray, List.getElem_cons_zero, List.getElem_cons_succ, List.setIfInBounds_toArray, List.set_cons_zero, List.set_cons_succ]
      refine wpS_take (i := 7) (v := .string perm) (fun _ => trivial) (by kernel_rfl) rfl (by kernel_rfl) (by kernel_rfl) (by kernel_rfl) (by kernel_rfl) (by kernel_rfl) (fun _ _ _ h => h) (Or.inl ⟨by kernel_rfl, ?_⟩) hS1 ?_
      · intro w' hSw; obtain ⟨s1, s2, s3, s4⟩ := hSw; go_simp
      simp only [Act.put, List.getElem_toArray, List.getElem_cons_zero, List.getElem_cons_succ, List.setIfInBounds_toArray, List.set_cons_zero, List.set_cons_succ]
      refine wpS_take (i := 8) (v := .bool false) (fun _ => trivial) (by kernel_rfl) rfl (by kernel_rfl) (by kernel_rfl) (by kernel_rfl) (by kernel_rfl) (by kernel_rfl) (fun _ _ _ h => h) (Or.inl ⟨by kernel_rfl, ?_⟩) hS1 ?_
      · intro w' hSw; obtain ⟨s1, s2, s3, s4⟩ := hSw; go_simp
      simp only [Act.put, List.getElem_toArray, List.getElem_cons_zero, List.getElem_cons_succ, List.setIfInBounds_toArray, List.set_cons_zero, List.set_cons_succ]
      refine wpS_take (i := 9) (v := .bool true) (fun _ => trivial) (by kernel_rfl) rfl (by kernel_rfl) (by kernel_rfl) (by kernel_rfl) (by kernel_rfl) (by kernel_rfl) (fun _ _ _ h => h) (Or.inl ⟨by kernel_rfl, ?_⟩) hS1 ?_
      · intro w' hSw; obtain ⟨s1, s2, s3, s4⟩ := hSw; go_simp
      simp only [Act.put, List.getElem_toArray, List.getElem_cons_zero, List.getElem_cons_succ, List.setIfInBounds_toArray, List.set_cons_zero, List.set_cons_succ]
      refine wpS_take (i := 10) (v := .bool true) (fun _ => trivial) (by kernel_rfl) rfl (by kernel_rfl) (by kernel_rfl) (by kernel_rfl) (by kernel_rfl) (by kernel_rfl) (fun _ _ _ h => h) (Or.inl ⟨by kernel_rfl, ?_⟩) hS1 ?_
      · intro w' hSw; obtain ⟨s1, s2, s3, s4⟩ := hSw; go_simp
      simp only [Act.put, List.getElem_toArray, List.getElem_cons_zero, List.getElem_cons_succ, List.setIfInBounds_toArray, List.set_cons_zero, List.set_cons_succ]
      refine wpS_done (by kernel_rfl) ?_ _
      gi_wp2
      refine bodyPost_ret (results_none rfl _ _ _) rfl ?_
      exact ⟨⟨_, rfl⟩, .inl ⟨_, ⟨q, own, [], hO.out, Or.inl ⟨Or.inr (fun h => by rw [memB_iff.2 h] at hmb; cases hmb), rfl⟩, by simp [v3]⟩, abides_ext hJ hJs (Ext.refl _).drawn⟩⟩
    · rw [hmb] at hset
      have hS1 : (fun w' : World => w'.cell? ⟨a1, 0, none⟩ = some (.pointer (some ⟨m, 0, none⟩)) ∧ w'.cell? ⟨m, 11, none⟩ = some (.map (some bA)) ∧ w'.cell? ⟨a3, 0, none⟩ = some (.string perm) ∧ (Instr.lookup 86 (.map (some bA)) (.string perm) false).run Try.prog w' = .ok (.bool true) w') w3.drew := ⟨e3.cell c1, e3.cell k11, e3.cell c3, hset _ e3⟩
      clear hset
      gi_upto_region 16 with fail
      refine wpIn_region_S (fun w' => w'.cell? ⟨a1, 0, none⟩ = some (.pointer (some ⟨m, 0, none⟩)) ∧ w'.cell? ⟨m, 11, none⟩ = some (.map (some bA)) ∧ w'.cell? ⟨a3, 0, none⟩ = some (.string perm) ∧ (Instr.lookup 86 (.map (some bA)) (.string perm) false).run Try.prog w' = .ok (.bool true) w') 99 (by kernel_rfl) ?_
      change wpS _ _ _ _ _ _ _ 11 #[false, false, false, false, false, false, false, false, false, false, false] _ _
      refine wpS_take (i := 0) (v := .int .i64 (q : Int)) (fun _ => trivial) (by kernel_rfl) rfl (by kernel_rfl) (by kernel_rfl) (by kernel_rfl) (by kernel_rfl) (by kernel_rfl) (fun _ _ _ h => h) (Or.inl ⟨by kernel_rfl, ?_⟩) hS1 ?_
      · intro w' hSw; obtain ⟨s1, s2, s3, s4⟩ := hSw; go_simp
      simp only [Act.put, List.getElem_toArray, List.getElem_cons_zero, List.getElem_cons_succ, List.setIfInBounds_toArray, List.set_cons_zero, List.set_cons_succ]
      refine wpS_take (i := 1) (v := .bool false) (fun _ => trivial) (by kernel_rfl) rfl (by kernel_rfl) (by kernel_rfl) (by kernel_rfl) (by kernel_rfl) (by kernel_rfl) (fun _ _ _ h => h) (Or.inl ⟨by kernel_rfl, ?_⟩) hS1 ?_
      · intro w' hSw; obtain ⟨s1, s2, s3, s4⟩ := hSw; go_simp
      simp only [Act.put, List.getElem_toArray, List.getElem_cons_zero, List.getElem_cons_succ, List.setIfInBounds_toArray, List.set_cons_zero, List.set_cons_succ]
      refine wpS_take (i := 2) (v := .bool false) (fun _ => trivial) (by kernel_rfl) rfl (by kernel_rfl) (by kernel_rfl) (by kernel_rfl) (by kernel_rfl) (by kernel_rfl) (fun _ _ _ h => h) (Or.inl ⟨by kernel_rfl, ?_⟩) hS1 ?_
      · intro w' hSw; obtain ⟨s1, s2, s3, s4⟩ := hSw; go_simp
      simp only [Act.put, List.getElem_toArray, List.getElem_cons_zero, List.getElem_cons_succ, List.setIfInBounds_toArray, List.set_cons_zero, List.set_cons_succ]
      refine wpS_take (i := 3) (v := .pointer (some ⟨m, 0, none⟩)) (fun _ => trivial) (by kernel_rfl) rfl (by kernel_rfl) (by kernel_rfl) (by kernel_rfl) (by kernel_rfl) (by kernel_rfl) (fun _ _ _ h => h) (Or.inl ⟨by kernel_rfl, ?_⟩) hS1 ?_
      · intro w' hSw; obtain ⟨s1, s2, s3, s4⟩ := hSw; go_simp
      simp only [Act.put, List.getElem_toArray, List.getElem_cons_zero, List.getElem_cons_succ, List.setIfInBounds_toArray, List.set_cons_zero, List.set_cons_succ]
      refine wpS_take (i := 4) (v := .pointer (some ⟨m, 0, none⟩)) (fun _ => trivial) (by kernel_rfl) rfl (by kernel_rfl) (by kernel_rfl) (by kernel_rfl) (by kernel_rfl) (by kernel_rfl) (fun _ _ _ h => h) (Or.inl ⟨by kernel_rfl, ?_⟩) hS1 ?_
      · intro w' hSw; obtain ⟨s1, s2, s3, s4⟩ := hSw; go_simp
      simp only [Act.put, List.getElem_toArray, List.getElem_cons_zero, List.getElem_cons_succ, List.setIfInBounds_toArray, List.set_cons_zero, List.set_cons_succ]
      refine wpS_take (i := 5) (v := .pointer (some ⟨m, 11, none⟩)) (fun _ => trivial) (by kernel_rfl) rfl (by kernel_rfl) (by kernel_rfl) (by kernel_rfl) (by kernel_rfl) (by kernel_rfl) (fun _ _ _ h => h) (Or.inl ⟨by kernel_rfl, ?_⟩) hS1 ?_
      · intro w' hSw; obtain ⟨s1, s2, s3, s4⟩ := hSw; go_simp
      simp only [Act.put, List.getElem_toArray, List.getElem_cons_zero, List.getElem_cons_succ, List.setIfInBounds_toArray, List.set_cons_zero, List.set_cons_succ]
      refine wpS_take (i := 6) (v := .map (some bA)) (fun _ => trivial) (by kernel_rfl) rfl (by kernel_rfl) (by kernel_rfl) (by kernel_rfl) (by kernel_rfl) (by kernel_rfl) (fun _ _ _ h => h) (Or.inl ⟨by kernel_rfl, ?_⟩) hS1 ?_
      · intro w' hSw; obtain ⟨s1, s2, s3, s4⟩ := hSw; go_simp
      simp only [Act.put, List.getElem_toArray, List.getElem_cons_zero, List.getElem_cons_succ, List.setIfInBounds_toArray, List.set_cons_zero, List.set_cons_succ]
      refine wpS_take (i := 7) (v := .string perm) (fun _ => trivial) (by kernel_rfl) rfl (by kernel_rfl) (by kernel_rfl) (by kernel_rfl) (by kernel_rfl) (by kernel_rfl) (fun _ _ _ h => h) (Or.inl ⟨by kernel_rfl, ?_⟩) hS1 ?_
      · intro w' hSw; obtain ⟨s1, s2, s3, s4⟩ := hSw; go_simp
      simp only [Act.put, List.getElem_toArray, List.getElem_cons_zero, List.getElem_cons_succ, List.setIfInBounds_toArray, List.set_cons_zero, List.set_cons_succ]
      refine wpS_take (i := 8) (v := .bool true) (fun _ => trivial) (by kernel_rfl) rfl (by kernel_rfl) (by kernel_rfl) (by kernel_rfl) (by kernel_rfl) (by kernel_rfl) (fun _ _ _ h => h) (Or.inl ⟨by kernel_rfl, ?_⟩) hS1 ?_
      · intro w' hSw; obtain ⟨s1, s2, s3, s4⟩ := hSw; go_simp
      simp only [Act.put, List.getElem_toArray, List.getElem_cons_zero, List.getElem_cons_succ, List.setIfInBounds_toArray, List.set_cons_zero, List.set_cons_succ]
      refine wpS_take (i := 9) (v := .bool false) (fun _ => trivial) (by kernel_rfl) rfl (by kernel_rfl) (by kernel_rfl) (by kernel_rfl) (by kernel_rfl) (by kernel_rfl) (fun _ _ _ h => h) (Or.inl ⟨by kernel_rfl, ?_⟩) hS1 ?_
      · intro w' hSw; obtain ⟨s1, s2, s3, s4⟩ := hSw; go_simp
      simp only [Act.put, List.getElem_toArray, List.getElem_cons_zero, List.getElem_cons_succ, List.setIfInBounds_toArray, List.set_cons_zero, List.set_cons_succ]
      refine wpS_take (i := 10) (v := .bool false) (fun _ => trivial) (by kernel_rfl) rfl (by kernel_rfl) (by kernel_rfl) (by kernel_rfl) (by kernel_rfl) (by kernel_rfl) (fun _ _ _ h => h) (Or.inl ⟨by kernel_rfl, ?_⟩) hS1 ?_
      · intro w' hSw; obtain ⟨s1, s2, s3, s4⟩ := hSw; go_simp
      simp only [Act.put, List.getElem_toArray, List.getElem_cons_zero, List.getElem_cons_succ, List.setIfInBounds_toArray, List.set_cons_zero, List.set_cons_succ]
      refine wpS_done (by kernel_rfl) ?_ _
      have hJd := abides_ext hJ hJs (Ext.refl _).drawn
      have d1 := e3.cell c1
      have d0 := e3.cell k0
      obtain ⟨gi, bp, gp, tS, tM, S1, M1, sv, rv, Nn, t1, t2, t3, t4, t5, t6⟩ := hT.ex
      obtain ⟨rank, hrk, _⟩ := ranked_of_ends (P := parL os) (by rw [parL_len]; exact hends)
      have eT2 : w3.drew.cell? ⟨T, 2, none⟩ = some (.slice (some ⟨gp, 0, none⟩) (parL os).length (parL os).length) := by rw [parL_len]; exact (t1.ext e3).cell rfl
      have hcall := ancestors_any (parL os) rank T gp q w3.drew (rng_parL os) hrk (by rw [parL_len]; exact hno) (t3.ext e3) eT2 (by rw [parL_len]; exact hq)
      have hpa : Hid (perm ∈ an) := memB_iff.1 hmb
      clear hS1 hmb t1 t2 t4 t5 t6 eT2
      gi_wp2_with (refine ⟨trivial, ?_⟩; gi_at_call 74; refine (callsIn_wide.2 hcall).mono ?_; rintro e w4 ⟨A, va, hU, hown, hAlt, hAl, rfl, hx4⟩; obtain ⟨oa, oc, rfl, hI⟩ := ints_of_own hown)
      have hI1 : IntsAt w4 (.slice oa A.length oc) A := ⟨oa, oc, rfl, hI⟩
      have hJ4 := abides_ext hJ hJd hx4
      rw [parL_len] at hAl
      have hUR : Hid (UpR os an perm q A) := ⟨by omega, hpa.out, hU.out⟩
      clear hI hown hJd hJs hcall d1 d0
      gi_loopw [99] (fun i wr => ∃ k : Nat, i = .int .i64 k ∧ k ≤ A.length ∧ J (v1 own ++ v2 (os.map Org.id) ss perm own ++ (v3 A).take k) wr ∧ IntsAt wr (.slice oa A.length oc) A) (fun i _ => A.length - (intOf i).toNat)
      case atStart => exact ⟨0, rfl, Nat.zero_le _, by simpa using hJ4, hI1⟩
      case round =>
        clear hJ4 hI1
        obtain ⟨k, rfl, hk, hJs, hI⟩ := hrel
        by_cases hlt : k < A.length
        · obtain ⟨p, hp⟩ := get_at A k hlt
          obtain ⟨a', cap', hv'', hcells⟩ := hI
          cases hv''
          obtain ⟨bb, o, rfl, hc⟩ := hcells k p hp
          have hI' : IntsAt wr (.slice (some ⟨bb, o, none⟩) A.length oc) A := ⟨_, oc, rfl, hcells⟩
          have HT : Hid ((v3 A).take (k + 1) = (v3 A).take k ++ [(p, 3, 0)]) := by
            have h1 : (v3 A)[k]? = some (p, 3, 0) := by unfold v3; rw [List.getElem?_map, hp]; rfl
            have h2 := (List.getElem?_eq_some_iff.1 h1)
            show _ = _
            rw [List.take_succ_eq_append_getElem h2.1, h2.2]
          obtain ⟨fn, tmps, assign, body, hy, hR⟩ := hY _ (p, 3, 0) wr (Or.inr ⟨Or.inr rfl, own_ok hO.out (Or.inr (by omega))⟩) hJs (by rw [hN]; simp only [List.length_append, List.length_take, v1, List.length_map]; omega)
          simp only [encV] at hy
          have hc' : wr.cell? ⟨bb, o + k, none⟩ = some (.int .i64 (p : Int)) := hc
          clear hp hcells hc
          gi_wp2
          refine hR.mono ?_
          rintro e W3 (⟨rfl, hJ3, hk3⟩ | ⟨rfl, hJx3⟩)
          · gi_wp2
            go_roundw
            case rel => exact ⟨k + 1, by go_num, by omega, by rw [HT.out, ← List.append_assoc]; exact hJ3, hI'.kc hk3⟩
            case measure => simp [intOf]; omega
          · gi_wp2
            refine bodyPost_ret (results_none rfl _ _ _) rfl ?_
            refine ⟨⟨_, rfl⟩, .inr ⟨_, ⟨q, own, A, hO.out, Or.inr hUR.out, ?_⟩, hJx3⟩⟩
            rw [List.append_assoc, ← HT.out]
            exact (List.prefix_append_right_inj _).2 (List.take_prefix _ _)
        · obtain rfl : k = A.length := by omega
          have hfull : (v3 A).take A.length = v3 A := by
            have : A.length = (v3 A).length := by simp [v3]
            rw [this, List.take_length]
          rw [hfull] at hJs
          gi_wp2
          go_end0
          exact ⟨⟨_, rfl⟩, .inl ⟨_, ⟨q, own, A, hO.out, Or.inr hUR.out, rfl⟩, hJs⟩⟩

end Go.Proofs.Qxb6609292a
