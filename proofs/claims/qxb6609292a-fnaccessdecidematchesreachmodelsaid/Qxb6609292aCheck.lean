/-
  WALKS for seat b6609292a: checkReferences, where all is well.
-/
import Derived.Test.Qxb6609292aBad
import Derived.Test.Qxb6609292aTree0
set_option linter.unusedVariables false
set_option linter.unusedSimpArgs false
namespace Go.Proofs.Qxb6609292a
open Go.RowKit Go.Maps

theorem isIn60 (p b n : Nat) (ids : List ByteArray) (s : ByteArray) (w : World) (hc : w.cell? ⟨p, 0, none⟩ = some (.map (some b))) (hm : SM w 3 b n (posF ids ids.length)) (hs : okStr s) (hin : s ∈ ids) :
    Calls Try.prog 60 #[.string s, .pointer (some ⟨p, 0, none⟩)] w fun e w' => e = .returned (.bool true) ∧ w = w' := by
  cases hp : idxTo ids ids.length s with
  | none => exact absurd hin (idx_none_iff.1 hp)
  | some q =>
    have hlk := hm.pos hs hp
    clear hp
    go_enter Try.func60, Try.ntmps60
    go_wp2_with fail
    go_ret
    exact ⟨rfl, rfl⟩
theorem isIn61 (p b n : Nat) (ids : List ByteArray) (s : ByteArray) (w : World) (hc : w.cell? ⟨p, 0, none⟩ = some (.map (some b))) (hm : SM w 3 b n (posF ids ids.length)) (hs : okStr s) (hin : s ∈ ids) :
    Calls Try.prog 61 #[.string s, .pointer (some ⟨p, 0, none⟩)] w fun e w' => e = .returned (.bool true) ∧ w = w' := by
  cases hp : idxTo ids ids.length s with
  | none => exact absurd hin (idx_none_iff.1 hp)
  | some q =>
    have hlk := hm.pos hs hp
    clear hp
    go_enter Try.func61, Try.ntmps61
    go_wp2_with fail
    go_ret
    exact ⟨rfl, rfl⟩
theorem has_yes (T b n : Nat) (ids : List ByteArray) (s : ByteArray) (w : World) (hc : w.cell? ⟨T, 1, none⟩ = some (.map (some b))) (hm : SM w 3 b n (posF ids ids.length)) (hs : okStr s) (hin : s ∈ ids) :
    Calls Try.prog 59 #[.pointer (some ⟨T, 0, none⟩), .string s] w fun e w' => e = .returned (.bool true) ∧ w = w' := by
  refine (has_any T b n ids s w hc hm hs).mono ?_
  rintro e w' ⟨q, hq, rfl, rfl⟩
  exact ⟨by rw [hq.2 hin], rfl⟩
def CkPost (w : World) : Ending → World → Prop := fun e w' => e = .returned .nilIface ∧ Ext w w'
set_option maxRecDepth 1000000 in
set_option maxHeartbeats 3200000 in
theorem check_t6 {x0 x1 x2 x3 x5 x6 x7 x8 x12 x13 x14 x15 x16 x17 x18 x19 x20 x21 x22 x23 x24 x25 x26 x27 x28 x29 x30 x31 x32 x33 x34 x35 x36 x37 x38 x39 x40 x41 x42 x43 x44 x45 x46 x47 x48 x49 x50 x51 x52 x53 x54 x55 x56 x57 x58 x59 x60 x61 x62 x63 x64 x65 x66 x67 x68 x69 x70 x71 x72 x73 x74 x75 x76 x77 x78 x79 x80 x81 x82 x83 x84 x85 x86 x87 x88 x89 x90 x91 x92 x93 x94 x95 x96 x97 x98 x99 x100 x101 x102 x103 x104 x105 x106 x107 x108 x109 x110 x111 x112 x113 x114 x115 x116 x117 x118 x119 x120 x121 x122 x123 x124 x125 x126 x127 x128 x129 x130 x131 x132 x133 x134 x135 x136 x137 x138 x139 x140 x141 x142 x143 x144 x145 x146 x147 x148 x149 x150 x151 x152 x153 x154 x155 x156 x157 x158 : Value} (os : List Org) (rs : List Role) (us : List User) (ss : List Share) (A T bp bR bU Np Nr Nu : Nat) (w wB wE : World) (ar au ash : Option Addr) (cr cu csh : Nat) (vO vA : Value)
    (hcr : rs.length ≤ 1048576) (hcu : us.length ≤ 1048576) (hcs : ss.length ≤ 1048576) (hcur : ∀ u ∈ us, u.roles.length ≤ 1048576)
    (hr : RolesM wB (.slice ar rs.length cr) rs) (hu : UsersAt wB (.slice au us.length cu) us) (hs : SharesAt wB (.slice ash ss.length csh) ss)
    (hW : Blk wB A [vO, .slice ar rs.length cr, .slice au us.length cu, .slice ash ss.length csh, .slice none 0 0, vA]) (hb1 : wB.cell? ⟨A + 1, 0, none⟩ = some (.map (some bR))) (hb2 : wB.cell? ⟨A + 2, 0, none⟩ = some (.map (some bU)))
    (hT : wB.cell? ⟨T, 1, none⟩ = some (.map (some bp))) (hmp : SM wB 3 bp Np (posF (os.map Org.id) (os.map Org.id).length)) (hmr : SM wB 3 bR Nr (posF (rs.map Role.id) (rs.map Role.id).length)) (hmu : SM wB 3 bU Nu (posF (us.map User.id) (us.map User.id).length))
    (vr : ∀ r ∈ rs, r.org ∈ os.map Org.id ∧ ∀ g ∈ r.grants, g.scope = 0 ∨ g.scope = 1) (vu : ∀ u ∈ us, ∀ x ∈ u.roles, x ∈ rs.map Role.id) (vs : ∀ s ∈ ss, s.owner ∈ os.map Org.id ∧ s.dest ∈ os.map Org.id ∧ (s.by_ = ⟨#[]⟩ ∨ s.by_ ∈ us.map User.id)) (hwB : Ext w wB) (he : Ext wB wE) :
    Code.wp Try.prog (dropSeq 6 (Try.f36.body.getD .skip)) (bodyPost Try.prog Try.f36 (CkPost w)) ⟨#[x0, x1, x2, x3, .pointer (some ⟨A, 0, none⟩), x5, x6, x7, x8, .func (.func 59) #[.pointer (some ⟨T, 0, none⟩)] #[], .func (.func 60) #[] #[.pointer (some ⟨A + 1, 0, none⟩)], .func (.func 61) #[] #[.pointer (some ⟨A + 2, 0, none⟩)], x12, x13, x14, x15, x16, x17, x18, x19, x20, x21, x22, x23, x24, x25, x26, x27, x28, x29, x30, x31, x32, x33, x34, x35, x36, x37, x38, x39, x40, x41, x42, x43, x44, x45, x46, x47, x48, x49, x50, x51, x52, x53, x54, x55, x56, x57, x58, x59, x60, x61, x62, x63, x64, x65, x66, x67, x68, x69, x70, x71, x72, x73, x74, x75, x76, x77, x78, x79, x80, x81, x82, x83, x84, x85, x86, x87, x88, x89, x90, x91, x92, x93, x94, x95, x96, x97, x98, x99, x100, x101, x102, x103, x104, x105, x106, x107, x108, x109, x110, x111, x112, x113, x114, x115, x116, x117, x118, x119, x120, x121, x122, x123, x124, x125, x126, x127, x128, x129, x130, x131, x132, x133, x134, x135, x136, x137, x138, x139, x140, x141, x142, x143, x144, x145, x146, x147, x148, x149, x150, x151, x152, x153, x154, x155, x156, x157, x158], []⟩ wE := by
  conv => arg 2; whnf
  unfold CkPost
  have cW3 : wE.cell? ⟨A, 3, none⟩ = some (.slice ash ss.length csh) := (hW.ext he).cell rfl
  go_wp2_with fail
  go_loopw [90] (fun j wr => ∃ k : Nat, j = .int .i64 k ∧ k ≤ ss.length ∧ Ext wB wr) (fun i _ => ss.length - (intOf i).toNat)
  case atStart => exact ⟨0, rfl, Nat.zero_le _, he⟩
  case round =>
    clear he cW3
    obtain ⟨k, rfl, hk, he⟩ := hrel
    by_cases hlt : k < ss.length
    · obtain ⟨o, ho⟩ := get_at ss k hlt
      obtain ⟨bb, off, rfl, c0, c1, c2, c3, c4, ok⟩ := hs.at ho
      obtain ⟨v1, v2, v3⟩ := vs o (List.mem_of_getElem? ho)
      obtain ⟨sa, sc, hsv, hsc⟩ := ok.2.2.2.2.shape
      rw [hsv] at c3
      have d0 := he.cell c0
      have d1 := he.cell c1
      have d2 := he.cell c2
      have d3 := he.cell c3
      have d4 := he.cell c4
      have x1 := Ext.alloc wr (.cells #[.int .i64 k] 3)
      have x2 := Ext.alloc (wr.alloc (.cells #[.int .i64 k] 3)) (.cells #[.string o.id, .string o.owner, .string o.dest, .slice sa o.perms.length sc, .string o.by_] 103)
      have he2 := (he.trans x1).trans x2
      have hTc := he2.cell hT
      have hmp2 := hmp.ext he2
      have hmu2 := hmu.ext he2
      have hb2' := he2.cell hb2
      clear ho c0 c1 c2 c3 c4 hsv
      rcases str_empty o.by_ with ⟨e1, e2⟩ | ⟨e1, e2⟩
      · go_wp2_with (go_at_call 59; first
          | (refine (has_yes T bp Np (os.map Org.id) o.owner _ hTc hmp2 ok.2.1 v1).mono ?_; clear v1; rintro e w' ⟨rfl, rfl⟩)
          | (refine (has_yes T bp Np (os.map Org.id) o.dest _ hTc hmp2 ok.2.2.1 v2).mono ?_; clear v2; rintro e w' ⟨rfl, rfl⟩))
        go_roundw
        case rel => exact ⟨k + 1, by go_num, by omega, he2⟩
        case measure => simp [intOf]; omega
      · rcases v3 with v3 | v3
        · exact absurd v3 e2
        go_wp2_with (first
          | (go_at_call 59; refine (has_yes T bp Np (os.map Org.id) o.owner _ hTc hmp2 ok.2.1 v1).mono ?_; clear v1; rintro e w' ⟨rfl, rfl⟩)
          | (go_at_call 59; refine (has_yes T bp Np (os.map Org.id) o.dest _ hTc hmp2 ok.2.2.1 v2).mono ?_; clear v2; rintro e w' ⟨rfl, rfl⟩)
          | (go_at_call 61; refine (isIn61 (A + 2) bU Nu (us.map User.id) o.by_ _ hb2' hmu2 ok.2.2.2.1 v3).mono ?_; clear v3; rintro e w' ⟨rfl, rfl⟩))
        go_roundw
        case rel => exact ⟨k + 1, by go_num, by omega, he2⟩
        case measure => simp [intOf]; omega
    · obtain rfl : k = ss.length := by omega
      have cW4 : wr.cell? ⟨A, 4, none⟩ = some (.slice none 0 0) := (hW.ext he).cell rfl
      rename World => w6
      go_wp2_with fail
      go_loopw [135] (fun j wr => j = .int .i64 0 ∧ w6 = wr) (fun _ _ => 0)
      case atStart => exact ⟨rfl, rfl⟩
      case round =>
        obtain ⟨rfl, rfl⟩ := hrel
        go_wp2_with fail
        go_ret
        exact ⟨rfl, hwB.trans he⟩

set_option maxRecDepth 1000000 in
set_option maxHeartbeats 3200000 in
theorem check_t5 {x0 x1 x2 x3 x5 x6 x7 x8 x12 x13 x14 x15 x16 x17 x18 x19 x20 x21 x22 x23 x24 x25 x26 x27 x28 x29 x30 x31 x32 x33 x34 x35 x36 x37 x38 x39 x40 x41 x42 x43 x44 x45 x46 x47 x48 x49 x50 x51 x52 x53 x54 x55 x56 x57 x58 x59 x60 x61 x62 x63 x64 x65 x66 x67 x68 x69 x70 x71 x72 x73 x74 x75 x76 x77 x78 x79 x80 x81 x82 x83 x84 x85 x86 x87 x88 x89 x90 x91 x92 x93 x94 x95 x96 x97 x98 x99 x100 x101 x102 x103 x104 x105 x106 x107 x108 x109 x110 x111 x112 x113 x114 x115 x116 x117 x118 x119 x120 x121 x122 x123 x124 x125 x126 x127 x128 x129 x130 x131 x132 x133 x134 x135 x136 x137 x138 x139 x140 x141 x142 x143 x144 x145 x146 x147 x148 x149 x150 x151 x152 x153 x154 x155 x156 x157 x158 : Value} (os : List Org) (rs : List Role) (us : List User) (ss : List Share) (A T bp bR bU Np Nr Nu : Nat) (w wB wE : World) (ar au ash : Option Addr) (cr cu csh : Nat) (vO vA : Value)
    (hcr : rs.length ≤ 1048576) (hcu : us.length ≤ 1048576) (hcs : ss.length ≤ 1048576) (hcur : ∀ u ∈ us, u.roles.length ≤ 1048576)
    (hr : RolesM wB (.slice ar rs.length cr) rs) (hu : UsersAt wB (.slice au us.length cu) us) (hs : SharesAt wB (.slice ash ss.length csh) ss)
    (hW : Blk wB A [vO, .slice ar rs.length cr, .slice au us.length cu, .slice ash ss.length csh, .slice none 0 0, vA]) (hb1 : wB.cell? ⟨A + 1, 0, none⟩ = some (.map (some bR))) (hb2 : wB.cell? ⟨A + 2, 0, none⟩ = some (.map (some bU)))
    (hT : wB.cell? ⟨T, 1, none⟩ = some (.map (some bp))) (hmp : SM wB 3 bp Np (posF (os.map Org.id) (os.map Org.id).length)) (hmr : SM wB 3 bR Nr (posF (rs.map Role.id) (rs.map Role.id).length)) (hmu : SM wB 3 bU Nu (posF (us.map User.id) (us.map User.id).length))
    (vr : ∀ r ∈ rs, r.org ∈ os.map Org.id ∧ ∀ g ∈ r.grants, g.scope = 0 ∨ g.scope = 1) (vu : ∀ u ∈ us, ∀ x ∈ u.roles, x ∈ rs.map Role.id) (vs : ∀ s ∈ ss, s.owner ∈ os.map Org.id ∧ s.dest ∈ os.map Org.id ∧ (s.by_ = ⟨#[]⟩ ∨ s.by_ ∈ us.map User.id)) (hwB : Ext w wB) (he : Ext wB wE) :
    Code.wp Try.prog (dropSeq 5 (Try.f36.body.getD .skip)) (bodyPost Try.prog Try.f36 (CkPost w)) ⟨#[x0, x1, x2, x3, .pointer (some ⟨A, 0, none⟩), x5, x6, x7, x8, .func (.func 59) #[.pointer (some ⟨T, 0, none⟩)] #[], .func (.func 60) #[] #[.pointer (some ⟨A + 1, 0, none⟩)], .func (.func 61) #[] #[.pointer (some ⟨A + 2, 0, none⟩)], x12, x13, x14, x15, x16, x17, x18, x19, x20, x21, x22, x23, x24, x25, x26, x27, x28, x29, x30, x31, x32, x33, x34, x35, x36, x37, x38, x39, x40, x41, x42, x43, x44, x45, x46, x47, x48, x49, x50, x51, x52, x53, x54, x55, x56, x57, x58, x59, x60, x61, x62, x63, x64, x65, x66, x67, x68, x69, x70, x71, x72, x73, x74, x75, x76, x77, x78, x79, x80, x81, x82, x83, x84, x85, x86, x87, x88, x89, x90, x91, x92, x93, x94, x95, x96, x97, x98, x99, x100, x101, x102, x103, x104, x105, x106, x107, x108, x109, x110, x111, x112, x113, x114, x115, x116, x117, x118, x119, x120, x121, x122, x123, x124, x125, x126, x127, x128, x129, x130, x131, x132, x133, x134, x135, x136, x137, x138, x139, x140, x141, x142, x143, x144, x145, x146, x147, x148, x149, x150, x151, x152, x153, x154, x155, x156, x157, x158], []⟩ wE := by
  conv => arg 2; whnf
  have cW2 : wE.cell? ⟨A, 2, none⟩ = some (.slice au us.length cu) := (hW.ext he).cell rfl
  go_wp2_with fail
  go_loopw [62] (fun j wr => ∃ k : Nat, j = .int .i64 k ∧ k ≤ us.length ∧ Ext wB wr) (fun i _ => us.length - (intOf i).toNat)
  case atStart => exact ⟨0, rfl, Nat.zero_le _, he⟩
  case round =>
    clear he cW2
    obtain ⟨k, rfl, hk, he⟩ := hrel
    by_cases hlt : k < us.length
    · obtain ⟨o, ho⟩ := get_at us k hlt
      obtain ⟨bb, off, rfl, c0, c1, ok⟩ := hu.at ho
      have v1 := vu o (List.mem_of_getElem? ho)
      have hlr := hcur o (List.mem_of_getElem? ho)
      have hst := ok.2
      obtain ⟨sa, sc, hsv, hsc⟩ := hst.shape
      rw [hsv] at c1 hst
      have d0 := he.cell c0
      have d1 := he.cell c1
      have he1 := he.trans (Ext.alloc wr (.cells #[.string o.id, .slice sa o.roles.length sc] 100))
      clear ho c0 c1 hsv
      rename World => w5
      go_wp2_with fail
      go_loopw [70] (fun j wr => ∃ q : Nat, j = .int .i64 q ∧ q ≤ o.roles.length ∧ Ext wB wr) (fun i _ => o.roles.length - (intOf i).toNat)
      case atStart => exact ⟨0, rfl, Nat.zero_le _, he1⟩
      case round =>
        clear he1 d0 d1
        obtain ⟨q, rfl, hq, he1⟩ := hrel
        by_cases hlq : q < o.roles.length
        · obtain ⟨x, hx⟩ := get_at o.roles q hlq
          obtain ⟨b2, o2, rfl, cx, okx⟩ := hst.at hx
          have dx := he1.cell cx
          have v2 := v1 x (List.mem_of_getElem? hx)
          have hb1' := he1.cell hb1
          have hmr1 := hmr.ext he1
          clear hx cx
          go_wp2_with (go_at_call 60; refine (isIn60 (A + 1) bR Nr (rs.map Role.id) x _ hb1' hmr1 okx v2).mono ?_; rintro e w' ⟨rfl, rfl⟩)
          go_roundw
          case rel => exact ⟨q + 1, by go_num, by omega, he1⟩
          case measure => simp [intOf]; omega
        · obtain rfl : q = o.roles.length := by omega
          go_wp2_with fail
          go_roundw
          case rel => exact ⟨k + 1, by go_num, by omega, he1⟩
          case measure => simp [intOf]; omega
    · obtain rfl : k = us.length := by omega
      repeat (first | (exact check_t6 os rs us ss A T bp bR bU Np Nr Nu w wB _ ar au ash cr cu csh vO vA hcr hcu hcs hcur hr hu hs hW hb1 hb2 hT hmp hmr hmu vr vu vs hwB he) | go_values | go_skip | go_guarded | go_step | go_upon | (simp only [Int.not_lt, Int.not_le] at *; go_simp))

set_option maxRecDepth 1000000 in
set_option maxHeartbeats 3200000 in
theorem check_t4 {x0 x1 x2 x3 x5 x6 x7 x8 x12 x13 x14 x15 x16 x17 x18 x19 x20 x21 x22 x23 x24 x25 x26 x27 x28 x29 x30 x31 x32 x33 x34 x35 x36 x37 x38 x39 x40 x41 x42 x43 x44 x45 x46 x47 x48 x49 x50 x51 x52 x53 x54 x55 x56 x57 x58 x59 x60 x61 x62 x63 x64 x65 x66 x67 x68 x69 x70 x71 x72 x73 x74 x75 x76 x77 x78 x79 x80 x81 x82 x83 x84 x85 x86 x87 x88 x89 x90 x91 x92 x93 x94 x95 x96 x97 x98 x99 x100 x101 x102 x103 x104 x105 x106 x107 x108 x109 x110 x111 x112 x113 x114 x115 x116 x117 x118 x119 x120 x121 x122 x123 x124 x125 x126 x127 x128 x129 x130 x131 x132 x133 x134 x135 x136 x137 x138 x139 x140 x141 x142 x143 x144 x145 x146 x147 x148 x149 x150 x151 x152 x153 x154 x155 x156 x157 x158 : Value} (os : List Org) (rs : List Role) (us : List User) (ss : List Share) (A T bp bR bU Np Nr Nu : Nat) (w wB wE : World) (ar au ash : Option Addr) (cr cu csh : Nat) (vO vA : Value)
    (hcr : rs.length ≤ 1048576) (hcu : us.length ≤ 1048576) (hcs : ss.length ≤ 1048576) (hcur : ∀ u ∈ us, u.roles.length ≤ 1048576)
    (hr : RolesM wB (.slice ar rs.length cr) rs) (hu : UsersAt wB (.slice au us.length cu) us) (hs : SharesAt wB (.slice ash ss.length csh) ss)
    (hW : Blk wB A [vO, .slice ar rs.length cr, .slice au us.length cu, .slice ash ss.length csh, .slice none 0 0, vA]) (hb1 : wB.cell? ⟨A + 1, 0, none⟩ = some (.map (some bR))) (hb2 : wB.cell? ⟨A + 2, 0, none⟩ = some (.map (some bU)))
    (hT : wB.cell? ⟨T, 1, none⟩ = some (.map (some bp))) (hmp : SM wB 3 bp Np (posF (os.map Org.id) (os.map Org.id).length)) (hmr : SM wB 3 bR Nr (posF (rs.map Role.id) (rs.map Role.id).length)) (hmu : SM wB 3 bU Nu (posF (us.map User.id) (us.map User.id).length))
    (vr : ∀ r ∈ rs, r.org ∈ os.map Org.id ∧ ∀ g ∈ r.grants, g.scope = 0 ∨ g.scope = 1) (vu : ∀ u ∈ us, ∀ x ∈ u.roles, x ∈ rs.map Role.id) (vs : ∀ s ∈ ss, s.owner ∈ os.map Org.id ∧ s.dest ∈ os.map Org.id ∧ (s.by_ = ⟨#[]⟩ ∨ s.by_ ∈ us.map User.id)) (hwB : Ext w wB) (he : Ext wB wE) :
    Code.wp Try.prog (dropSeq 4 (Try.f36.body.getD .skip)) (bodyPost Try.prog Try.f36 (CkPost w)) ⟨#[x0, x1, x2, x3, .pointer (some ⟨A, 0, none⟩), x5, x6, x7, x8, .func (.func 59) #[.pointer (some ⟨T, 0, none⟩)] #[], .func (.func 60) #[] #[.pointer (some ⟨A + 1, 0, none⟩)], .func (.func 61) #[] #[.pointer (some ⟨A + 2, 0, none⟩)], x12, x13, x14, x15, x16, x17, x18, x19, x20, x21, x22, x23, x24, x25, x26, x27, x28, x29, x30, x31, x32, x33, x34, x35, x36, x37, x38, x39, x40, x41, x42, x43, x44, x45, x46, x47, x48, x49, x50, x51, x52, x53, x54, x55, x56, x57, x58, x59, x60, x61, x62, x63, x64, x65, x66, x67, x68, x69, x70, x71, x72, x73, x74, x75, x76, x77, x78, x79, x80, x81, x82, x83, x84, x85, x86, x87, x88, x89, x90, x91, x92, x93, x94, x95, x96, x97, x98, x99, x100, x101, x102, x103, x104, x105, x106, x107, x108, x109, x110, x111, x112, x113, x114, x115, x116, x117, x118, x119, x120, x121, x122, x123, x124, x125, x126, x127, x128, x129, x130, x131, x132, x133, x134, x135, x136, x137, x138, x139, x140, x141, x142, x143, x144, x145, x146, x147, x148, x149, x150, x151, x152, x153, x154, x155, x156, x157, x158], []⟩ wE := by
  conv => arg 2; whnf
  have cW1 : wE.cell? ⟨A, 1, none⟩ = some (.slice ar rs.length cr) := (hW.ext he).cell rfl
  go_wp2_with fail
  go_loopw [33] (fun j wr => ∃ k : Nat, j = .int .i64 k ∧ k ≤ rs.length ∧ Ext wB wr) (fun i _ => rs.length - (intOf i).toNat)
  case atStart => exact ⟨0, rfl, Nat.zero_le _, he⟩
  case round =>
    clear he cW1
    obtain ⟨k, rfl, hk, he⟩ := hrel
    by_cases hlt : k < rs.length
    · obtain ⟨o, ho⟩ := get_at rs k hlt
      obtain ⟨bb, off, rfl, c0, c1, c2, c3, ok0, okn, ok, okg, hmap⟩ := hr.at ho
      obtain ⟨v1, v2⟩ := vr o (List.mem_of_getElem? ho)
      have d0 := he.cell c0
      have d1 := he.cell c1
      have d2 := he.cell c2
      have d3 := he.cell c3
      obtain ⟨mo, hmo⟩ := hmap.shape
      rw [hmo] at d3 hmap
      have x1 := Ext.alloc wr (.cells #[.int .i64 k] 3)
      have x2 := Ext.alloc (wr.alloc (.cells #[.int .i64 k] 3)) (.cells #[.string o.id, .string o.name, .string o.org, .map mo] 97)
      have he2 := (he.trans x1).trans x2
      have hTc := he2.cell hT
      have hmp2 := hmp.ext he2
      have hmap2 := hmap.ext he2
      clear ho c0 c1 c2 c3 hmo
      go_wp2_with (first
        | (go_at_call 59; refine (has_yes T bp Np (os.map Org.id) o.org _ hTc hmp2 ok v1).mono ?_; rintro e w' ⟨rfl, rfl⟩)
        | (go_at_call 63; refine (firstBad_any _ o.grants _ hmap2 v2).mono ?_; rintro e w' ⟨⟨s, rfl⟩, hx⟩))
      go_roundw
      case rel => exact ⟨k + 1, by go_num, by omega, he2.trans hx⟩
      case measure => simp [intOf]; omega
    · obtain rfl : k = rs.length := by omega
      repeat (first | (exact check_t5 os rs us ss A T bp bR bU Np Nr Nu w wB _ ar au ash cr cu csh vO vA hcr hcu hcs hcur hr hu hs hW hb1 hb2 hT hmp hmr hmu vr vu vs hwB he) | go_values | go_skip | go_guarded | go_step | go_upon | (simp only [Int.not_lt, Int.not_le] at *; go_simp))

set_option maxRecDepth 1000000 in
set_option maxHeartbeats 3200000 in
theorem checkRefs_any (os : List Org) (rs : List Role) (us : List User) (ss : List Share) (T bp bR bU Np Nr Nu : Nat) (w : World) (vR vU vS : Value) (vO vA : Value)
    (hcr : rs.length ≤ 1048576) (hcu : us.length ≤ 1048576) (hcs : ss.length ≤ 1048576) (hcur : ∀ u ∈ us, u.roles.length ≤ 1048576)
    (hr : RolesM w vR rs) (hu : UsersAt w vU us) (hs : SharesAt w vS ss) (ho : OrgsAt w vO os) (han : ∃ a n c, vA = .slice a n c)
    (hT : w.cell? ⟨T, 1, none⟩ = some (.map (some bp))) (hmp : SM w 3 bp Np (posF (os.map Org.id) (os.map Org.id).length)) (hmr : SM w 3 bR Nr (posF (rs.map Role.id) (rs.map Role.id).length)) (hmu : SM w 3 bU Nu (posF (us.map User.id) (us.map User.id).length))
    (vr : ∀ r ∈ rs, r.org ∈ os.map Org.id ∧ ∀ g ∈ r.grants, g.scope = 0 ∨ g.scope = 1) (vu : ∀ u ∈ us, ∀ x ∈ u.roles, x ∈ rs.map Role.id) (vs : ∀ s ∈ ss, s.owner ∈ os.map Org.id ∧ s.dest ∈ os.map Org.id ∧ (s.by_ = ⟨#[]⟩ ∨ s.by_ ∈ us.map User.id)) :
    Calls Try.prog 36 #[.agg #[vO, vR, vU, vS, .slice none 0 0, vA], .pointer (some ⟨T, 0, none⟩), .map (some bR), .map (some bU)] w (CkPost w) := by
  obtain ⟨ar, cr, rfl, _⟩ := hr.shape
  obtain ⟨au, cu, rfl, _⟩ := hu.shape
  obtain ⟨ash, csh, rfl, _⟩ := hs.shape
  obtain ⟨ao, co, rfl, _⟩ := ho.shape
  obtain ⟨aa, na, ca, rfl⟩ := han
  have hW := Blk.alloc w [.slice ao os.length co, .slice ar rs.length cr, .slice au us.length cu, .slice ash ss.length csh, .slice none 0 0, .slice aa na ca] 48
  have x1 := Ext.alloc w (.cells #[.slice ao os.length co, .slice ar rs.length cr, .slice au us.length cu, .slice ash ss.length csh, .slice none 0 0, .slice aa na ca] 48)
  have x2 := Ext.alloc (w.alloc (.cells #[.slice ao os.length co, .slice ar rs.length cr, .slice au us.length cu, .slice ash ss.length csh, .slice none 0 0, .slice aa na ca] 48)) (.cells #[.map (some bR)] 58)
  have x3 := Ext.alloc ((w.alloc (.cells #[.slice ao os.length co, .slice ar rs.length cr, .slice au us.length cu, .slice ash ss.length csh, .slice none 0 0, .slice aa na ca] 48)).alloc (.cells #[.map (some bR)] 58)) (.cells #[.map (some bU)] 58)
  have hB1 := Blk.alloc (w.alloc (.cells #[.slice ao os.length co, .slice ar rs.length cr, .slice au us.length cu, .slice ash ss.length csh, .slice none 0 0, .slice aa na ca] 48)) [.map (some bR)] 58
  have hB2 := Blk.alloc ((w.alloc (.cells #[.slice ao os.length co, .slice ar rs.length cr, .slice au us.length cu, .slice ash ss.length csh, .slice none 0 0, .slice aa na ca] 48)).alloc (.cells #[.map (some bR)] 58)) [.map (some bU)] 58
  have hx := (x1.trans x2).trans x3
  have hW3 := (hW.ext x2).ext x3
  have c1 := x3.cell (hB1.cell (i := 0) rfl)
  have c2 := hB2.cell (i := 0) rfl
  simp only [World.size_alloc] at c1 c2
  have hr3 := hr.ext hx
  have hu3 := hu.ext hx
  have hs3 := hs.ext hx
  have hT3 := hx.cell hT
  have hmp3 := hmp.ext hx
  have hmr3 := hmr.ext hx
  have hmu3 := hmu.ext hx
  clear hr hu hs ho hT hmp hmr hmu hW x1 x2 x3 hB1 hB2
  go_enter Try.func36, Try.ntmps36
  repeat (first | (exact check_t4 os rs us ss w.heap.size T bp bR bU Np Nr Nu w _ _ ar au ash cr cu csh _ _ hcr hcu hcs hcur hr3 hu3 hs3 hW3 c1 c2 hT3 hmp3 hmr3 hmu3 vr vu vs hx (Ext.refl _)) | go_values | go_skip | go_guarded | go_step | go_upon | (simp only [Int.not_lt, Int.not_le] at *; go_simp))

end Go.Proofs.Qxb6609292a
