/-
  THE WALK of wantOf, seat b6609292a, part 9 (laid by a script of this seat's).
-/
import Derived.Test.Qxb6609292aWant1
set_option linter.unusedVariables false
set_option linter.unusedSimpArgs false
namespace Go.Proofs.Qxb6609292a
open Go.RowKit Go.Maps

set_option maxRecDepth 1000000 in
set_option maxHeartbeats 16000000 in
theorem wantOf_any (vo vr vu vs : Value) (os : List Org) (rs : List Role) (us : List User) (ss : List Share) (w : World) (ho : OrgsAt w vo os) (hr : RolesAt w vr rs) (hu : UsersAt w vu us) (hs : SharesAt w vs ss)
    (no : os.length ≤ 1048576) (nr : rs.length ≤ 1048576) (nu : us.length ≤ 1048576) (ns : ss.length ≤ 1048576) (ng : ∀ r ∈ rs, r.grants.length ≤ 1048576) (nur : ∀ u ∈ us, u.roles.length ≤ 1048576) :
    Calls Try.prog 8 #[vo, vr, vu, vs, .slice none 0 0] w (WantPost os rs us ss w) := by
  obtain ⟨ao, co, rfl, hco⟩ := ho.shape
  obtain ⟨ar, cr, rfl, hcr⟩ := hr.shape
  obtain ⟨au, cu, rfl, hcu⟩ := hu.shape
  obtain ⟨ash, csh, rfl, hcs⟩ := hs.shape
  clear hco hcr hcu hcs
  go_enter Try.func8, Try.ntmps8
  go_wp2_with (at_make; refine wpList_mk _ rfl _ _ 26 rfl 9 (.string ⟨#[]⟩) 1 16 Try.underlying26 Try.infos9 os.length rfl rfl (by omega) (by omega) ?_; intro w0 hb0 hg0; rw [made_one _ rfl] at hb0)
  have hz0 : Blk w0 w.heap.size Z32 := (Blk.alloc w Z32 32).kept hg0 (by simp)
  have he0 : Ext w w0 := grown_ext (Ext.alloc w _) hg0 (by simp)
  have hsz : (w.alloc (.cells #[.int .i64 0, .int .i64 0, .string ⟨#[]⟩, .string ⟨#[]⟩, .string ⟨#[]⟩, .string ⟨#[]⟩, .string ⟨#[]⟩, .int .i64 0] 32)).heap.size = w.heap.size + 1 := by simp
  rw [hsz] at hb0
  clear hsz
  go_loopw [61] (fun j wr => ∃ (k : Nat) (xs : List Value), j = .int .i64 k ∧ k ≤ os.length ∧ xs.length = os.length ∧ Hid (xs.take k = ((os.map Org.id).take k).map sV) ∧ Blk wr (w.heap.size + 1) xs ∧ Blk wr w.heap.size Z32 ∧ Ext w wr) (fun i _ => os.length - (intOf i).toNat)
  case atStart => exact ⟨0, _, rfl, Nat.zero_le _, by simp, by simp [Hid], hb0, hz0, he0⟩
  case round =>
    obtain ⟨k, xs, rfl, hk, hxl, hx, hb, hz, he⟩ := hrel
    clear hz0 he0 hb0 hg0
    by_cases hlt : k < os.length
    · obtain ⟨o, hoo⟩ := get_at os k hlt
      obtain ⟨bb, off, rfl, c0, c1, c2, ok⟩ := ho.at hoo
      have d0 := he.cell c0
      have HX : Hid ((xs.set k (sV o.id)).take (k + 1) = ((os.map Org.id).take (k + 1)).map sV) := gather_succ hoo hxl hx.out
      clear hoo c0 c1 c2 hx
      go_wp2_with (refine wpList_st1 _ rfl 9 _ _ rfl (w.heap.size + 1) k xs (.string o.id) rfl hb rfl Try.info9 (by omega) rfl ?_; intro w1 hb1 hg1; have he1 := grown_ext he hg1 (by simp); have hz1 := hz.kept hg1 (by simp))
      go_roundw
      case rel => exact ⟨k + 1, _, by go_num, by omega, by simp [hxl], HX, hb1, hz1, he1⟩
      case measure => simp [intOf]; omega
    · obtain rfl : k = os.length := by omega
      have hst := strs_gather hb hxl hx.out (fun o ho' => (ho.2 o ho').1)
      clear hx hxl hb hk hlt
      go_wp2_with (first
        | (go_at_call 25; refine (firstID_any _ (os.map Org.id) _ hst (by simp; omega)).mono ?_; rintro e w1 ⟨z, p, hzz, rfl, he1⟩; have he2 := he.trans he1; have hz2 := hz.ext he1; clear hz he he1 hst; rcases hzz with ⟨rfl, hids⟩ | ⟨k, rfl, hk⟩)
        | (go_at_call 16; refine (orgIndex_any _ os _ (ho.ext he2) no).mono ?_; rintro e w3 ⟨bm, rfl, hm, he3⟩; have he4 := he2.trans he3; have hz4 := hz2.ext he3; clear he2 he3 hz2))
      rotate_left
      · simp only [List.length_map] at hk
        obtain ⟨o, hoo⟩ := get_at os k hk
        obtain ⟨bb, off, rfl, c0, c1, c2, ok⟩ := ho.at hoo
        have d0 := he2.cell c0
        have d2 := he2.cell c2
        clear hoo c0 c1 c2
        obtain ⟨z0, z1, z2, z3, z4, z5, z6, z7, zf⟩ := z8 hz2
        go_big_region
        go_wp2
        refine bodyPost_ret (v := .agg #[.int .i64 1, .int .i64 k, .string o.id, .string o.parent, .string ⟨#[]⟩, .string ⟨#[]⟩, .string ⟨#[]⟩, .int .i64 p]) (by simp [results, Try.results8, go_sem, z0, z1, z2, z3, z4, z5, z6, z7]) rfl ⟨_, _, _, _, _, _, _, _, fun h => absurd h (by decide), rfl, ?_⟩
        exact (he2.set8 _ _ _ _ _ _ _ _).drawn
      have hm : SM w3 3 bm os.length (posF (os.map Org.id) (os.map Org.id).length) := by simpa using hm
      go_loopw [97] (fun j wr => ∃ k : Nat, j = .int .i64 k ∧ k ≤ os.length ∧ (∀ o ∈ os.take k, o.parent = ⟨#[]⟩ ∨ o.parent ∈ os.map Org.id) ∧ w3 = wr) (fun i _ => os.length - (intOf i).toNat)
      case atStart => exact ⟨0, rfl, Nat.zero_le _, by simp, rfl⟩
      case round =>
        obtain ⟨k, rfl, hk, hpar, rfl⟩ := hrel
        by_cases hlt : k < os.length
        · obtain ⟨o, hoo⟩ := get_at os k hlt
          obtain ⟨bb, off, rfl, c0, c1, c2, ok⟩ := ho.at hoo
          have d0 := he4.cell c0
          have d2 := he4.cell c2
          rcases str_empty o.parent with ⟨e1, e2⟩ | ⟨e1, e2⟩
          · have hpar' := all_take_succ hoo hpar (Or.inl e2.out)
            clear hoo c0 c1 c2 hpar
            go_wp2_with fail
            go_roundw
            case rel => exact ⟨k + 1, by go_num, by omega, hpar', by trivial⟩
            case measure => simp [intOf]; omega
          · cases hp : idxTo (os.map Org.id) (os.map Org.id).length o.parent with
            | none =>
              have hlk := hm.nopos ok.2.2 hp
              clear hp hoo c0 c1 c2 hpar
              go_wp2_with fail
              obtain ⟨z0, z1, z2, z3, z4, z5, z6, z7, zf⟩ := z8 hz4
              go_big_region
              go_wp2
              refine bodyPost_ret (v := .agg #[.int .i64 1, .int .i64 k, .string o.id, .string o.parent, .string ⟨#[]⟩, .string ⟨#[]⟩, .string ⟨#[]⟩, .int .i64 3]) (by simp [results, Try.results8, go_sem, z0, z1, z2, z3, z4, z5, z6, z7]) rfl ⟨_, _, _, _, _, _, _, _, fun h => absurd h (by decide), rfl, ?_⟩
              exact (he4.set8 _ _ _ _ _ _ _ _).drawn
            | some q =>
              have hlk := hm.pos ok.2.2 hp
              have hpar' := all_take_succ hoo hpar (Or.inr (idx_some_mem hp))
              clear hp hoo c0 c1 c2 hpar
              go_wp2_with fail
              go_roundw
              case rel => exact ⟨k + 1, by go_num, by omega, hpar', by trivial⟩
              case measure => simp [intOf]; omega
        · obtain rfl : k = os.length := by omega
          rw [List.take_length] at hpar
          have hparl : (parL os).length = os.length := by simp [parL]
          have HPL : Hid ((parL os).length = os.length) := hparl
          clear hparl hlt hk
          have HI : Hid (IdsOk (os.map Org.id)) := hids
          have HP2 : Hid (∀ o ∈ os, o.parent = ⟨#[]⟩ ∨ o.parent ∈ os.map Org.id) := hpar
          clear hids hpar
          go_wp2_with fail
          refine (parentsOf_any _ os bm _ _ (ho.ext he4) no hm).mono ?_
          rintro e w5 ⟨gp, rfl, hbp, he5, -⟩
          have he6 := he4.trans he5
          have hz6 := hz4.ext he5
          have hm6 := hm.ext he5
          clear he4 hz4 hm he5
          go_wp2_with fail
          refine (hasCycle_n (parL os) os.length HPL.out gp _ hbp (rng_parL os) no).mono ?_
          rintro e w7 ⟨cy, hcy, rfl, he7⟩
          have he8 := he6.trans he7
          have hz8 := hz6.ext he7
          have hm8 := hm6.ext he7
          clear he6 hz6 hm6 he7 hbp
          rcases cy with _ | _
          rotate_left
          · clear hcy
            obtain ⟨z0, z1, z2, z3, z4, z5, z6, z7, zf⟩ := z8 hz8
            go_wp2
            refine bodyPost_ret (v := .agg #[.int .i64 1, .int .i64 (-1), .string ⟨#[]⟩, .string ⟨#[]⟩, .string ⟨#[]⟩, .string ⟨#[]⟩, .string ⟨#[]⟩, .int .i64 4]) (by simp [results, Try.results8, go_sem, z0, z1, z2, z3, z4, z5, z6, z7]) rfl ⟨_, _, _, _, _, _, _, _, fun h => absurd h (by decide), rfl, ?_⟩
            exact he8.set8 _ _ _ _ _ _ _ _
          have hends : Hid (∀ q : Nat, q < os.length → Ends (parL os) q) := hcy rfl
          clear hcy
          repeat (first | (exact want_t1 os rs us ss w _ _ _ _ _ _ _ _ ho hr hu hs no nr nu ns ng nur bm w7 he8 hz8 hm8 HI HP2 hends) | go_values | go_skip | go_guarded | go_step | go_upon | (simp only [Int.not_lt, Int.not_le] at *; go_simp))
end Go.Proofs.Qxb6609292a
