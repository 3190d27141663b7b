/-
  WALKS for seat b6609292a: NewModel.
-/
import Derived.Test.Qxb6609292aNewF
set_option linter.unusedVariables false
set_option linter.unusedSimpArgs false
namespace Go.Proofs.Qxb6609292a
open Go.RowKit Go.Maps

set_option maxRecDepth 1000000 in
set_option maxHeartbeats 6400000 in
theorem newModel_any (os : List Org) (rl : List Role) (us : List User) (sl : List Share) (an : List ByteArray) (vO vR vU vS vA : Value) (w : World) (hn : os.length ≤ 1048576) (hnr : rl.length ≤ 1048576) (hnu : us.length ≤ 1048576) (hns : sl.length ≤ 1048576) (hna : an.length ≤ 1048576)
    (hos : OrgsAt w vO os) (hRs : RolesM w vR rl) (hUs : UsersAt w vU us) (hSs : SharesAt w vS sl) (han : StrsAt w vA an) (hur : ∀ u ∈ us, u.roles.length ≤ 1048576) (hnp : ∀ s ∈ sl, s.perms.length ≤ 1048576) (hv : Valid os rl us sl) :
    Calls Try.prog 10 #[.agg #[vO, vR, vU, vS, .slice none 0 0, vA]] w (NewPost os rl sl an w) := by
  obtain ⟨ao, co, rfl, _⟩ := hos.shape
  obtain ⟨ar, cr, rfl, _⟩ := hRs.shape
  obtain ⟨au, cu, rfl, _⟩ := hUs.shape
  obtain ⟨ash, csh, rfl, _⟩ := hSs.shape
  obtain ⟨aa, ca, rfl, _⟩ := han.shape
  have x0 := Ext.alloc w (.cells #[.slice ao os.length co, .slice ar rl.length cr, .slice au us.length cu, .slice ash sl.length csh, .slice none 0 0, .slice aa an.length ca] 48)
  have hW0 := Blk.alloc w [.slice ao os.length co, .slice ar rl.length cr, .slice au us.length cu, .slice ash sl.length csh, .slice none 0 0, .slice aa an.length ca] 48
  have hidO : Hid (IdsOk (os.map Org.id)) := hv.oid
  have hpar : Hid (∀ o ∈ os, o.parent = ⟨#[]⟩ ∨ o.parent ∈ os.map Org.id) := hv.opar
  have hends : Hid (∀ q : Nat, q < os.length → Ends (parL os) q) := hv.ends
  have hidR : Hid (IdsOk (rl.map Role.id)) := hv.rid
  have hidU : Hid (IdsOk (us.map User.id)) := hv.uid
  have hidS : Hid (IdsOk (sl.map Share.id)) := hv.sid
  have hV : Hid (Valid os rl us sl) := hv
  have k0 : (w.alloc (.cells #[.slice ao os.length co, .slice ar rl.length cr, .slice au us.length cu, .slice ash sl.length csh, .slice none 0 0, .slice aa an.length ca] 48)).cell? ⟨w.heap.size, 0, none⟩ = some (.slice ao os.length co) := hW0.cell rfl
  have k1 : (w.alloc (.cells #[.slice ao os.length co, .slice ar rl.length cr, .slice au us.length cu, .slice ash sl.length csh, .slice none 0 0, .slice aa an.length ca] 48)).cell? ⟨w.heap.size, 1, none⟩ = some (.slice ar rl.length cr) := hW0.cell rfl
  have k2 : (w.alloc (.cells #[.slice ao os.length co, .slice ar rl.length cr, .slice au us.length cu, .slice ash sl.length csh, .slice none 0 0, .slice aa an.length ca] 48)).cell? ⟨w.heap.size, 2, none⟩ = some (.slice au us.length cu) := hW0.cell rfl
  have k3 : (w.alloc (.cells #[.slice ao os.length co, .slice ar rl.length cr, .slice au us.length cu, .slice ash sl.length csh, .slice none 0 0, .slice aa an.length ca] 48)).cell? ⟨w.heap.size, 3, none⟩ = some (.slice ash sl.length csh) := hW0.cell rfl
  have k4 : (w.alloc (.cells #[.slice ao os.length co, .slice ar rl.length cr, .slice au us.length cu, .slice ash sl.length csh, .slice none 0 0, .slice aa an.length ca] 48)).cell? ⟨w.heap.size, 4, none⟩ = some (.slice none 0 0) := hW0.cell rfl
  have k5 : (w.alloc (.cells #[.slice ao os.length co, .slice ar rl.length cr, .slice au us.length cu, .slice ash sl.length csh, .slice none 0 0, .slice aa an.length ca] 48)).cell? ⟨w.heap.size, 5, none⟩ = some (.slice aa an.length ca) := hW0.cell rfl
  clear hv
  go_enter Try.func10, Try.ntmps10
  repeat (first
    | (exact newModel_t11 os rl us sl an w.heap.size T bR _ ao ar au ash aa co cr cu csh ca bU bC w w6 hn hnr hnu hns hna e6 (hT.ext y6) (hmr.ext z6) (hW0.ext u6) (hos.ext e6) (hRs.ext e6) (hUs.ext e6) (hSs.ext e6) (han.ext e6) hur hnp (fun s hs => (hV.out.sref s hs).2.1))
    | (go_at_call 27; refine (newTree_any _ os _ (hos.ext x0) hn hidO hpar hends).mono ?_; rintro e w1 ⟨T, rfl, hT, x1⟩; have e1 := x0.trans x1; have hW1 := hW0.ext x1; clear k0 k1 k2 k3 k4 k5; have k0 : w1.cell? ⟨w.heap.size, 0, none⟩ = some (.slice ao os.length co) := hW1.cell rfl; have k1 : w1.cell? ⟨w.heap.size, 1, none⟩ = some (.slice ar rl.length cr) := hW1.cell rfl; have k2 : w1.cell? ⟨w.heap.size, 2, none⟩ = some (.slice au us.length cu) := hW1.cell rfl; have k3 : w1.cell? ⟨w.heap.size, 3, none⟩ = some (.slice ash sl.length csh) := hW1.cell rfl; have k4 : w1.cell? ⟨w.heap.size, 4, none⟩ = some (.slice none 0 0) := hW1.cell rfl; have k5 : w1.cell? ⟨w.heap.size, 5, none⟩ = some (.slice aa an.length ca) := hW1.cell rfl)
    | (go_at_call 28; refine (listRoles_any _ _ rl w1 (hRs.ext e1) hnr hidR).mono ?_; rintro e w2 ⟨bR, rfl, hmr, x2⟩; have e2 := e1.trans x2; have hW2 := hW1.ext x2; clear k0 k1 k2 k3 k4 k5; have k0 : w2.cell? ⟨w.heap.size, 0, none⟩ = some (.slice ao os.length co) := hW2.cell rfl; have k1 : w2.cell? ⟨w.heap.size, 1, none⟩ = some (.slice ar rl.length cr) := hW2.cell rfl; have k2 : w2.cell? ⟨w.heap.size, 2, none⟩ = some (.slice au us.length cu) := hW2.cell rfl; have k3 : w2.cell? ⟨w.heap.size, 3, none⟩ = some (.slice ash sl.length csh) := hW2.cell rfl; have k4 : w2.cell? ⟨w.heap.size, 4, none⟩ = some (.slice none 0 0) := hW2.cell rfl; have k5 : w2.cell? ⟨w.heap.size, 5, none⟩ = some (.slice aa an.length ca) := hW2.cell rfl)
    | (go_at_call 30; refine (listUsers_any _ _ us w2 (hUs.ext e2) hnu hidU).mono ?_; rintro e w3 ⟨bU, rfl, hmu, x3⟩; have e3 := e2.trans x3; have hW3 := hW2.ext x3; clear k0 k1 k2 k3 k4 k5; have k0 : w3.cell? ⟨w.heap.size, 0, none⟩ = some (.slice ao os.length co) := hW3.cell rfl; have k1 : w3.cell? ⟨w.heap.size, 1, none⟩ = some (.slice ar rl.length cr) := hW3.cell rfl; have k2 : w3.cell? ⟨w.heap.size, 2, none⟩ = some (.slice au us.length cu) := hW3.cell rfl; have k3 : w3.cell? ⟨w.heap.size, 3, none⟩ = some (.slice ash sl.length csh) := hW3.cell rfl; have k4 : w3.cell? ⟨w.heap.size, 4, none⟩ = some (.slice none 0 0) := hW3.cell rfl; have k5 : w3.cell? ⟨w.heap.size, 5, none⟩ = some (.slice aa an.length ca) := hW3.cell rfl)
    | (go_at_call 32; refine (listShs_any _ _ sl w3 (hSs.ext e3) hns hidS).mono ?_; rintro e w4 ⟨bS, rfl, hms, x4⟩; have e4 := e3.trans x4; have hW4 := hW3.ext x4; clear k0 k1 k2 k3 k4 k5; have k0 : w4.cell? ⟨w.heap.size, 0, none⟩ = some (.slice ao os.length co) := hW4.cell rfl; have k1 : w4.cell? ⟨w.heap.size, 1, none⟩ = some (.slice ar rl.length cr) := hW4.cell rfl; have k2 : w4.cell? ⟨w.heap.size, 2, none⟩ = some (.slice au us.length cu) := hW4.cell rfl; have k3 : w4.cell? ⟨w.heap.size, 3, none⟩ = some (.slice ash sl.length csh) := hW4.cell rfl; have k4 : w4.cell? ⟨w.heap.size, 4, none⟩ = some (.slice none 0 0) := hW4.cell rfl; have k5 : w4.cell? ⟨w.heap.size, 5, none⟩ = some (.slice aa an.length ca) := hW4.cell rfl)
    | (go_at_call 34; refine (listRecs_any _ w4).mono ?_; rintro e w5 ⟨bC, rfl, x5⟩; have e5 := e4.trans x5; have hW5 := hW4.ext x5; have y5 := ((x2.trans x3).trans x4).trans x5; obtain ⟨gi, bp, gp, tS, tM, S1, M1, sv, rv, Nn, t1, t2, t3, t4, t5, t6⟩ := (hT.ext y5).ex; clear k0 k1 k2 k3 k4 k5; have k0 : w5.cell? ⟨w.heap.size, 0, none⟩ = some (.slice ao os.length co) := hW5.cell rfl; have k1 : w5.cell? ⟨w.heap.size, 1, none⟩ = some (.slice ar rl.length cr) := hW5.cell rfl; have k2 : w5.cell? ⟨w.heap.size, 2, none⟩ = some (.slice au us.length cu) := hW5.cell rfl; have k3 : w5.cell? ⟨w.heap.size, 3, none⟩ = some (.slice ash sl.length csh) := hW5.cell rfl; have k4 : w5.cell? ⟨w.heap.size, 4, none⟩ = some (.slice none 0 0) := hW5.cell rfl; have k5 : w5.cell? ⟨w.heap.size, 5, none⟩ = some (.slice aa an.length ca) := hW5.cell rfl)
    | (go_at_call 36; refine (checkRefs_any os rl us sl T bp bR bU Nn _ _ w5 _ _ _ _ _ hnr hnu hns hur (hRs.ext e5) (hUs.ext e5) (hSs.ext e5) (hos.ext e5) ⟨_, _, _, rfl⟩ (t1.cell rfl) t2 (hmr.ext ((x3.trans x4).trans x5)) (hmu.ext (x4.trans x5)) hV.out.rorg hV.out.urole hV.out.sref).mono ?_; rintro e w6 ⟨rfl, x6⟩; have e6 := e5.trans x6; have y6 := y5.trans x6; have z6 := ((x3.trans x4).trans x5).trans x6; have u6 := (x1.trans y5).trans x6; clear k0 k1 k2 k3 k4 k5)
    | go_values | go_skip | go_guarded | go_step | go_upon | (simp only [Int.not_lt, Int.not_le] at *; go_simp))

end Go.Proofs.Qxb6609292a
