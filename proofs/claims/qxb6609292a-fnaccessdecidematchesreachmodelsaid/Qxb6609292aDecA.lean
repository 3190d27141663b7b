/-
  WALKS for seat b6609292a: Access.Decide.
-/
import Derived.Test.Qxb6609292aDecM
set_option linter.unusedVariables false
set_option linter.unusedSimpArgs false
namespace Go.Proofs.Qxb6609292a
open Go.RowKit Go.Maps
attribute [local go_sem] Oper.semAt_some

set_option maxRecDepth 100000 in
set_option maxHeartbeats 3200000 in
theorem accDecide_any (a m : Nat) (os : List Org) (rs : List Role) (ss : List Share) (an : List ByteArray) (user role org perm owner : ByteArray) (w : World) (h : ModelAt w m os rs ss an) (ha : Blk w a [.pointer (some ⟨m, 0, none⟩), .string user, .string role, .string org]) (hor : okStr role) (hop : okStr perm) (hoo : okStr owner)
    (hno : os.length ≤ 1048576) (hnr : rs.length ≤ 1048576) (hns : ss.length ≤ 1048576) (hnp : ∀ s ∈ ss, s.perms.length ≤ 1048576) (hends : ∀ q : Nat, q < os.length → Ends (parL os) q) (hv : ∀ r ∈ rs, r.org ∈ os.map Org.id ∧ ∀ g ∈ r.grants, g.scope = 0 ∨ g.scope = 1) :
    Calls Try.prog 13 #[.pointer (some ⟨a, 0, none⟩), .string perm, .string owner] w (DecPost os rs ss an role perm owner w) := by
  have hz := Blk.alloc w (D8 ⟨#[]⟩ ⟨#[]⟩ ⟨#[]⟩ 0 ⟨#[]⟩ 0 ⟨#[]⟩ ⟨#[]⟩) 55
  have hx := Ext.alloc w (.cells #[.string ⟨#[]⟩, .string ⟨#[]⟩, .string ⟨#[]⟩, .int .i64 0, .string ⟨#[]⟩, .int .i64 0, .string ⟨#[]⟩, .string ⟨#[]⟩] 55)
  have hz' : Blk (w.alloc (.cells #[.string ⟨#[]⟩, .string ⟨#[]⟩, .string ⟨#[]⟩, .int .i64 0, .string ⟨#[]⟩, .int .i64 0, .string ⟨#[]⟩, .string ⟨#[]⟩] 55)) w.heap.size (D8 ⟨#[]⟩ ⟨#[]⟩ ⟨#[]⟩ 0 ⟨#[]⟩ 0 ⟨#[]⟩ ⟨#[]⟩) := hz
  have hxd := hx.drawn
  have a0 : (w.alloc (.cells #[.string ⟨#[]⟩, .string ⟨#[]⟩, .string ⟨#[]⟩, .int .i64 0, .string ⟨#[]⟩, .int .i64 0, .string ⟨#[]⟩, .string ⟨#[]⟩] 55)).cell? ⟨a, 0, none⟩ = some (.pointer (some ⟨m, 0, none⟩)) := (ha.ext hx).cell rfl
  have a2 : (w.alloc (.cells #[.string ⟨#[]⟩, .string ⟨#[]⟩, .string ⟨#[]⟩, .int .i64 0, .string ⟨#[]⟩, .int .i64 0, .string ⟨#[]⟩, .string ⟨#[]⟩] 55)).cell? ⟨a, 2, none⟩ = some (.string role) := (ha.ext hx).cell rfl
  have hal := ha.lt
  have hcall := decide_any m os rs ss an role perm owner _ (h.ext hxd) hor hop hoo hno hnr hns hnp hends hv
  clear hz
  have hS1 : (fun w' : World => w'.cell? ⟨a, 0, none⟩ = some (.pointer (some ⟨m, 0, none⟩)) ∧ w'.cell? ⟨a, 2, none⟩ = some (.string role)) (w.alloc (.cells #[.string ⟨#[]⟩, .string ⟨#[]⟩, .string ⟨#[]⟩, .int .i64 0, .string ⟨#[]⟩, .int .i64 0, .string ⟨#[]⟩, .string ⟨#[]⟩] 55)).drew := ⟨a0, a2⟩
  refine (callsIn_wide (n := 5)).1 ?_
  refine callsIn_of_wp Try.func13 rfl trivial ?_ rfl
  simp only [Try.ntmps13, List.size_toArray, List.length_cons, List.length_nil, Nat.reduceAdd, Nat.reduceSub, Array.replicate_succ, Array.replicate_zero, List.push_toArray, List.append_toArray, List.nil_append, List.cons_append]
  gi_upto_region 1 with fail
  refine wpIn_region_S (fun w' => w'.cell? ⟨a, 0, none⟩ = some (.pointer (some ⟨m, 0, none⟩)) ∧ w'.cell? ⟨a, 2, none⟩ = some (.string role)) 99 (by kernel_rfl) ?_
  change wpS _ _ _ _ _ _ _ 12 #[false, false, false, false, false, false, false, false, false, false, false, false] _ _
  refine wpS_take (i := 0) (v := .pointer (some ⟨a, 0, none⟩)) (fun _ => trivial) (by kernel_rfl) rfl (by kernel_rfl) (by kernel_rfl) (by kernel_rfl) (by kernel_rfl) (by kernel_rfl) (fun _ _ _ h => h) (Or.inl ⟨by kernel_rfl, ?_⟩) hS1 ?_
  · intro w' hSw; obtain ⟨s0, s1⟩ := hSw; go_simp
  simp only [Act.put, List.getElem_toArray, List.getElem_cons_zero, List.getElem_cons_succ, List.setIfInBounds_toArray, List.set_cons_zero, List.set_cons_succ]
  refine wpS_take (i := 1) (v := .pointer (some ⟨a, 0, none⟩)) (fun _ => trivial) (by kernel_rfl) rfl (by kernel_rfl) (by kernel_rfl) (by kernel_rfl) (by kernel_rfl) (by kernel_rfl) (fun _ _ _ h => h) (Or.inl ⟨by kernel_rfl, ?_⟩) hS1 ?_
  · intro w' hSw; obtain ⟨s0, s1⟩ := hSw; go_simp
  simp only [Act.put, List.getElem_toArray, List.getElem_cons_zero, List.getElem_cons_succ, List.setIfInBounds_toArray, List.set_cons_zero, List.set_cons_succ]
  refine wpS_take (i := 2) (v := .pointer (some ⟨a, 0, none⟩)) (fun _ => trivial) (by kernel_rfl) rfl (by kernel_rfl) (by kernel_rfl) (by kernel_rfl) (by kernel_rfl) (by kernel_rfl) (fun _ _ _ h => h) (Or.inl ⟨by kernel_rfl, ?_⟩) hS1 ?_
  · intro w' hSw; obtain ⟨s0, s1⟩ := hSw; go_simp
  simp only [Act.put, List.getElem_toArray, List.getElem_cons_zero, List.getElem_cons_succ, List.setIfInBounds_toArray, List.set_cons_zero, List.set_cons_succ]
  refine wpS_take (i := 3) (v := .pointer (some ⟨m, 0, none⟩)) (fun _ => trivial) (by kernel_rfl) rfl (by kernel_rfl) (by kernel_rfl) (by kernel_rfl) (by kernel_rfl) (by kernel_rfl) (fun _ _ _ h => h) (Or.inl ⟨by kernel_rfl, ?_⟩) hS1 ?_
  · intro w' hSw; obtain ⟨s0, s1⟩ := hSw; go_simp
  simp only [Act.put, List.getElem_toArray, List.getElem_cons_zero, List.getElem_cons_succ, List.setIfInBounds_toArray, List.set_cons_zero, List.set_cons_succ]
  refine wpS_take (i := 4) (v := .pointer (some ⟨a, 0, none⟩)) (fun _ => trivial) (by kernel_rfl) rfl (by kernel_rfl) (by kernel_rfl) (by kernel_rfl) (by kernel_rfl) (by kernel_rfl) (fun _ _ _ h => h) (Or.inl ⟨by kernel_rfl, ?_⟩) hS1 ?_
  · intro w' hSw; obtain ⟨s0, s1⟩ := hSw; go_simp
  simp only [Act.put, List.getElem_toArray, List.getElem_cons_zero, List.getElem_cons_succ, List.setIfInBounds_toArray, List.set_cons_zero, List.set_cons_succ]
  refine wpS_take (i := 5) (v := .pointer (some ⟨a, 0, none⟩)) (fun _ => trivial) (by kernel_rfl) rfl (by kernel_rfl) (by kernel_rfl) (by kernel_rfl) (by kernel_rfl) (by kernel_rfl) (fun _ _ _ h => h) (Or.inl ⟨by kernel_rfl, ?_⟩) hS1 ?_
  · intro w' hSw; obtain ⟨s0, s1⟩ := hSw; go_simp
  simp only [Act.put, List.getElem_toArray, List.getElem_cons_zero, List.getElem_cons_succ, List.setIfInBounds_toArray, List.set_cons_zero, List.set_cons_succ]
  refine wpS_take (i := 6) (v := .pointer (some ⟨a, 2, none⟩)) (fun _ => trivial) (by kernel_rfl) rfl (by kernel_rfl) (by kernel_rfl) (by kernel_rfl) (by kernel_rfl) (by kernel_rfl) (fun _ _ _ h => h) (Or.inl ⟨by kernel_rfl, ?_⟩) hS1 ?_
  · intro w' hSw; obtain ⟨s0, s1⟩ := hSw; go_simp
  simp only [Act.put, List.getElem_toArray, List.getElem_cons_zero, List.getElem_cons_succ, List.setIfInBounds_toArray, List.set_cons_zero, List.set_cons_succ]
  refine wpS_take (i := 7) (v := .string role) (fun _ => trivial) (by kernel_rfl) rfl (by kernel_rfl) (by kernel_rfl) (by kernel_rfl) (by kernel_rfl) (by kernel_rfl) (fun _ _ _ h => h) (Or.inl ⟨by kernel_rfl, ?_⟩) hS1 ?_
  · intro w' hSw; obtain ⟨s0, s1⟩ := hSw; go_simp
  simp only [Act.put, List.getElem_toArray, List.getElem_cons_zero, List.getElem_cons_succ, List.setIfInBounds_toArray, List.set_cons_zero, List.set_cons_succ]
  refine wpS_take (i := 8) (v := .string perm) (fun _ => trivial) (by kernel_rfl) rfl (by kernel_rfl) (by kernel_rfl) (by kernel_rfl) (by kernel_rfl) (by kernel_rfl) (fun _ _ _ h => h) (Or.inl ⟨by kernel_rfl, ?_⟩) hS1 ?_
  · intro w' hSw; obtain ⟨s0, s1⟩ := hSw; go_simp
  simp only [Act.put, List.getElem_toArray, List.getElem_cons_zero, List.getElem_cons_succ, List.setIfInBounds_toArray, List.set_cons_zero, List.set_cons_succ]
  refine wpS_take (i := 9) (v := .string owner) (fun _ => trivial) (by kernel_rfl) rfl (by kernel_rfl) (by kernel_rfl) (by kernel_rfl) (by kernel_rfl) (by kernel_rfl) (fun _ _ _ h => h) (Or.inl ⟨by kernel_rfl, ?_⟩) hS1 ?_
  · intro w' hSw; obtain ⟨s0, s1⟩ := hSw; go_simp
  simp only [Act.put, List.getElem_toArray, List.getElem_cons_zero, List.getElem_cons_succ, List.setIfInBounds_toArray, List.set_cons_zero, List.set_cons_succ]
  refine wpS_one (i := 10) (by kernel_rfl) rfl (by kernel_rfl) (fun K hK => ?_)
  gi_wp2_with (refine ⟨trivial, ?_⟩; gi_at_call 45; refine (callsIn_wide.2 hcall).mono ?_; rintro e wc ⟨b, g, sc, sh, st, HO, rfl, hxc⟩)
  have hS2 : (fun w' : World => w'.cell? ⟨a, 0, none⟩ = some (.pointer (some ⟨m, 0, none⟩)) ∧ w'.cell? ⟨a, 2, none⟩ = some (.string role)) wc := ⟨hxc.cell hS1.1, hxc.cell hS1.2⟩
  have hzc := hz'.drew.ext hxc
  refine hK _ _ (Or.inl hS2) ?_
  clear hK
  simp only [Act.put, List.getElem_toArray, List.getElem_cons_zero, List.getElem_cons_succ, List.setIfInBounds_toArray, List.set_cons_zero, List.set_cons_succ]
  refine wpS_one (i := 11) (by kernel_rfl) rfl (by kernel_rfl) (fun K hK => ?_)
  refine wpIn_st (fun _ => trivial) 55 (.tmp 6) (.tmp 17) (by rfl) w.heap.size 0 _ (.agg #[.string role, .string perm, .string owner, .int .i64 b, .string g, .int .i64 sc, .string sh, .string st]) (D8 role perm owner b g sc sh st) (by rfl) hzc (by rfl) rfl Try.info55 (by simp [D8]) (by simp [D8, Value.oneCell']) ?_
  intro W8 hR8' hg8
  have hR8 : Blk W8 w.heap.size (D8 role perm owner b g sc sh st) := hR8'
  refine hK _ _ (Or.inl ⟨hg8.cell hS2.1 (sne (by show a ≠ w.heap.size; omega)), hg8.cell hS2.2 (sne (by show a ≠ w.heap.size; omega))⟩) ?_
  clear hK
  simp only [Act.put, List.getElem_toArray, List.getElem_cons_zero, List.getElem_cons_succ, List.setIfInBounds_toArray, List.set_cons_zero, List.set_cons_succ]
  refine wpS_done (by kernel_rfl) ?_ _
  obtain ⟨q0, q1, q2, q3, q4, q5, q6, q7⟩ := d8_cells hR8
  gi_wp2
  refine bodyPost_ret (v := .agg #[.string role, .string perm, .string owner, .int .i64 b, .string g, .int .i64 sc, .string sh, .string st]) (by simp [results, Try.results13, go_sem, q0, q1, q2, q3, q4, q5, q6, q7]) rfl ⟨_, _, _, _, _, HO, rfl, ext_st (hxd.trans hxc) hg8 (Nat.le_refl _)⟩

end Go.Proofs.Qxb6609292a
