/-
  THE WALK of fitsWorld, seat b6609292a (laid by a script of this seat's).
-/
import Derived.Test.Qxb6609292aFitsO
set_option linter.unusedVariables false
set_option linter.unusedSimpArgs false
namespace Go.Proofs.Qxb6609292a
open Go.RowKit Go.Maps

set_option maxRecDepth 1000000 in
set_option maxHeartbeats 16000000 in
theorem fits_main (os : List Org) (rs : List Role) (us : List User) (ss : List Share) (an : List ByteArray) (t1 t2 t3 t4 t5 t6 : ByteArray) (w : World) (ao ar au ash aa : Option Addr) (co cr cu csh ca : Nat) (ho : OrgsAt w (.slice ao os.length co) os) (hr : RolesAt w (.slice ar rs.length cr) rs) (hu : UsersAt w (.slice au us.length cu) us) (hs : SharesAt w (.slice ash ss.length csh) ss) (ha : StrsAt w (.slice aa an.length ca) an)
    (no : os.length ≤ 1048576) (nr : rs.length ≤ 1048576) (nu : us.length ≤ 1048576) (ns : ss.length ≤ 1048576) (na : an.length ≤ 1048576) (ng : ∀ r ∈ rs, r.grants.length ≤ 1048576) (nur : ∀ u ∈ us, u.roles.length ≤ 1048576) (nsp : ∀ s ∈ ss, s.perms.length ≤ 1048576) (h1 : os.length ≤ 4096) (h2 : rs.length ≤ 4096) (h3 : us.length ≤ 4096) (h4 : ss.length ≤ 4096) (h5 : an.length ≤ 4096) :
    Calls Try.prog 6 #[.slice ao os.length co, .slice ar rs.length cr, .slice au us.length cu, .slice ash ss.length csh, .slice none 0 0, .slice aa an.length ca, .string t1, .string t2, .string t3, .string t4, .string t5, .string t6] w (FitsPost w) := by
  have he : Ext w (w.alloc (.cells #[.int .i64 0, .bool false] 81)) := Ext.alloc _ _
  have hbud : Bud (w.alloc (.cells #[.int .i64 0, .bool false] 81)) w.heap.size := ⟨0, false, Blk.alloc w [.int .i64 0, .bool false] 81, by decide, by decide⟩
  go_enter Try.func6, Try.ntmps6
  go_upto_region 16 with (first
    | (go_at_call 23; refine (text_any w.heap.size _ _ hbud).mono ?_; rintro e wn ⟨rfl, hb2, hg2⟩; have he2 := ext_st he hg2 (Nat.le_refl _); clear he hbud hg2; have he := he2; have hbud := hb2; clear he2 hb2)
    | (go_at_call 24; refine (words_any w.heap.size _ _ hbud).mono ?_; rintro e wn ⟨rfl, hb2, hg2⟩; have he2 := ext_st he hg2 (Nat.le_refl _); clear he hbud hg2; have he := he2; have hbud := hb2; clear he2 hb2; obtain ⟨ov, cO⟩ := bud_over hbud)
    | (go_at_call 24; refine (words_any w.heap.size 0 _ hbud).mono ?_; rintro e wn ⟨rfl, hb2, hg2⟩; have he2 := ext_st he hg2 (Nat.le_refl _); clear he hbud hg2; have he := he2; have hbud := hb2; clear he2 hb2; obtain ⟨ov, cO⟩ := bud_over hbud))
  cases ov
  rotate_left
  · go_wp2
    go_ret
    exact ⟨_, rfl, he⟩
  · repeat (first | (exact fits_o os rs us ss an w _ _ _ _ _ _ _ _ _ _ ho hr hu hs ha no nr nu ns na ng nur nsp _ he hbud) | go_values | go_skip | go_guarded | go_step | go_upon | (simp only [Int.not_lt, Int.not_le] at *; go_simp))
set_option maxRecDepth 1000000 in
set_option maxHeartbeats 16000000 in
theorem fits_any (vo vr vu vs va : Value) (os : List Org) (rs : List Role) (us : List User) (ss : List Share) (an : List ByteArray) (t1 t2 t3 t4 t5 t6 : ByteArray) (w : World) (ho : OrgsAt w vo os) (hr : RolesAt w vr rs) (hu : UsersAt w vu us) (hs : SharesAt w vs ss) (ha : StrsAt w va an)
    (no : os.length ≤ 1048576) (nr : rs.length ≤ 1048576) (nu : us.length ≤ 1048576) (ns : ss.length ≤ 1048576) (na : an.length ≤ 1048576) (ng : ∀ r ∈ rs, r.grants.length ≤ 1048576) (nur : ∀ u ∈ us, u.roles.length ≤ 1048576) (nsp : ∀ s ∈ ss, s.perms.length ≤ 1048576) :
    Calls Try.prog 6 #[vo, vr, vu, vs, .slice none 0 0, va, .string t1, .string t2, .string t3, .string t4, .string t5, .string t6] w (FitsPost w) := by
  obtain ⟨ao, co, rfl, hco⟩ := ho.shape
  obtain ⟨ar, cr, rfl, hcr⟩ := hr.shape
  obtain ⟨au, cu, rfl, hcu⟩ := hu.shape
  obtain ⟨ash, csh, rfl, hcs⟩ := hs.shape
  obtain ⟨aa, ca, rfl, hca⟩ := ha.shape
  by_cases hall : os.length ≤ 4096 ∧ rs.length ≤ 4096 ∧ us.length ≤ 4096 ∧ ss.length ≤ 4096 ∧ an.length ≤ 4096
  · obtain ⟨h1, h2, h3, h4, h5⟩ := hall
    exact fits_main os rs us ss an t1 t2 t3 t4 t5 t6 w _ _ _ _ _ _ _ _ _ _ ho hr hu hs ha no nr nu ns na ng nur nsp h1 h2 h3 h4 h5
  · clear ng nur nsp ho hr hu hs ha hco hcr hcu hcs hca
    by_cases h1 : 4096 < os.length
    · clear hall
      go_enter Try.func6, Try.ntmps6
      go_wp2
      go_ret
      exact ⟨_, rfl, Ext.refl _⟩
    by_cases h2 : 4096 < rs.length
    · clear hall
      go_enter Try.func6, Try.ntmps6
      go_wp2
      go_ret
      exact ⟨_, rfl, Ext.refl _⟩
    by_cases h3 : 4096 < us.length
    · clear hall
      go_enter Try.func6, Try.ntmps6
      go_wp2
      go_ret
      exact ⟨_, rfl, Ext.refl _⟩
    by_cases h4 : 4096 < ss.length
    · clear hall
      go_enter Try.func6, Try.ntmps6
      go_wp2
      go_ret
      exact ⟨_, rfl, Ext.refl _⟩
    by_cases h5 : 4096 < an.length
    · clear hall
      go_enter Try.func6, Try.ntmps6
      go_wp2
      go_ret
      exact ⟨_, rfl, Ext.refl _⟩
    omega
end Go.Proofs.Qxb6609292a
