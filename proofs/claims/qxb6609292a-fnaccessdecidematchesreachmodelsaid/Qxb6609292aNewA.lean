/-
  WALKS for seat b6609292a: NewModel, its last parts.
-/
import Derived.Test.Qxb6609292aCheck
import Derived.Test.Qxb6609292aOwn
set_option linter.unusedVariables false
set_option linter.unusedSimpArgs false
namespace Go.Proofs.Qxb6609292a
open Go.RowKit Go.Maps

/-- Block g holds the rows, one after another. -/
def CB (w : World) (g c : Nat) (rows : List (List Value)) : Prop := rows ≠ [] → ∃ cur, Blk w g cur ∧ cur.take (rows.length * c) = rows.flatten
theorem CB.ext {w w' : World} {g c : Nat} {rows : List (List Value)} (h : CB w g c rows) (he : Ext w w') : CB w' g c rows := fun hn => by
  obtain ⟨cur, h1, h2⟩ := h hn; exact ⟨cur, h1.ext he, h2⟩
theorem CB.kept {w w' : World} {g c : Nat} {rows : List (List Value)} {row : Option Nat} (h : CB w g c rows) (hg : w.grownBy w' row) (hne : some g ≠ row) : CB w' g c rows := fun hn => by
  obtain ⟨cur, h1, h2⟩ := h hn; exact ⟨cur, h1.kept hg hne, h2⟩
theorem flat_get {c : Nat} : ∀ (rows : List (List Value)), (∀ x ∈ rows, x.length = c) → ∀ (i j : Nat) (x : List Value) (u : Value), rows[i]? = some x → x[j]? = some u → rows.flatten[i * c + j]? = some u
  | [], _, i, j, x, u, hi, _ => by simp at hi
  | r :: rs, hc, i, j, x, u, hi, hj => by
    have hr := hc r (by simp)
    rw [List.flatten_cons]
    cases i with
    | zero =>
      simp at hi
      subst hi
      have := (List.getElem?_eq_some_iff.1 hj).1
      rw [Nat.zero_mul, Nat.zero_add, List.getElem?_append_left this]; exact hj
    | succ i =>
      rw [List.getElem?_append_right (by rw [hr, Nat.succ_mul]; omega)]
      have : (i + 1) * c + j - r.length = i * c + j := by rw [hr, Nat.succ_mul]; omega
      rw [this]
      exact flat_get rs (fun x hx => hc x (by simp [hx])) i j x u (by simpa using hi) hj
theorem flat_set {c : Nat} : ∀ (rows : List (List Value)), (∀ x ∈ rows, x.length = c) → ∀ (i j : Nat) (x : List Value) (v : Value), rows[i]? = some x → j < c → rows.flatten.set (i * c + j) v = (rows.set i (x.set j v)).flatten
  | [], _, i, j, x, v, hi, _ => by simp at hi
  | r :: rs, hc, i, j, x, v, hi, hj => by
    have hr := hc r (by simp)
    cases i with
    | zero =>
      simp at hi
      subst hi
      rw [List.set_cons_zero, List.flatten_cons, List.flatten_cons, Nat.zero_mul, Nat.zero_add, List.set_append_left _ _ (by omega)]
    | succ i =>
      rw [List.set_cons_succ, List.flatten_cons, List.flatten_cons, List.set_append_right _ _ (by rw [hr, Nat.succ_mul]; omega)]
      have : (i + 1) * c + j - r.length = i * c + j := by rw [hr, Nat.succ_mul]; omega
      rw [this, flat_set rs (fun x hx => hc x (by simp [hx])) i j x v (by simpa using hi) hj]
theorem flat_length {c : Nat} : ∀ (rows : List (List Value)), (∀ x ∈ rows, x.length = c) → rows.flatten.length = rows.length * c
  | [], _ => by simp
  | r :: rs, hc => by rw [List.flatten_cons, List.length_append, hc r (by simp), flat_length rs (fun x hx => hc x (by simp [hx])), List.length_cons, Nat.succ_mul]; omega
theorem CB.at {w : World} {g c : Nat} {rows : List (List Value)} (h : CB w g c rows) (hc : ∀ x ∈ rows, x.length = c) {i : Nat} {x : List Value} (hi : rows[i]? = some x) {j : Nat} {u : Value} (hj : x[j]? = some u) :
    ∃ cur, Blk w g cur ∧ cur.take (rows.length * c) = rows.flatten ∧ cur[i * c + j]? = some u ∧ i * c + j < cur.length ∧ i * c + j < rows.length * c := by
  obtain ⟨cur, h1, h2⟩ := h (fun e => by rw [e] at hi; simp at hi)
  have h3 := flat_get rows hc i j x u hi hj
  have h4 := (List.getElem?_eq_some_iff.1 h3).1
  rw [flat_length rows hc] at h4
  rw [← h2] at h3
  rw [List.getElem?_take_of_lt h4] at h3
  exact ⟨cur, h1, h2, h3, (List.getElem?_eq_some_iff.1 h3).1, h4⟩
theorem CB.put {w : World} {g c i j : Nat} {v : Value} {rows : List (List Value)} {cur : List Value} (hb : Blk w g (cur.set (i * c + j) v)) (ht : cur.take (rows.length * c) = rows.flatten) (hc : ∀ x ∈ rows, x.length = c) {x : List Value} (hi : rows[i]? = some x) (hj : j < c) (hl : i * c + j < rows.length * c) : CB w g c (rows.set i (x.set j v)) := by
  intro _
  refine ⟨_, hb, ?_⟩
  rw [List.length_set, List.take_set, ht, flat_set rows hc i j x v hi hj]
theorem CB.rows {w : World} {g c : Nat} {rows : List (List Value)} (h : CB w g c rows) (hc : ∀ x ∈ rows, x.length = c) {a : Option Addr} {cap : Nat} (ha : rows ≠ [] → a = some ⟨g, 0, none⟩) (hcap : rows.length ≤ cap) : RowsAt w (.slice a rows.length cap) c rows := by
  refine ⟨a, cap, rfl, hcap, fun hn => ⟨g, 0, ha hn, fun i x hi j u hj => ?_⟩⟩
  obtain ⟨cur, h1, h2, h3, _⟩ := h.at hc hi hj
  rw [Nat.zero_add]
  exact h1.cell h3
theorem SM.cell_ne {w : World} {E : TypeId} {b n : Nat} {f : ByteArray → Option Value} (h : SM w E b n f) {b' o : Nat} {v : Value} (hc : w.cell? ⟨b', o, none⟩ = some v) : b' ≠ b := by
  obtain ⟨D, ⟨es, clock, hb, _⟩, _⟩ := h
  intro e
  subst e
  simp [World.cell?, hb] at hc
theorem SM.blk_ne {w : World} {E : TypeId} {b n g : Nat} {f : ByteArray → Option Value} {xs : List Value} (h : SM w E b n f) (hb : Blk w g xs) : g ≠ b := by
  obtain ⟨D, ⟨es, clock, hm, _⟩, _⟩ := h
  obtain ⟨T, hT⟩ := hb
  intro e
  subst e
  rw [hm] at hT; cases hT
theorem RowsAt.keptM {w w' : World} {E : TypeId} {b n : Nat} {f : ByteArray → Option Value} {v : Value} {k : Nat} {xs : List (List Value)} (h : RowsAt w v k xs) (hm : SM w E b n f) (hg : w.grownBy w' (some b)) : RowsAt w' v k xs := by
  obtain ⟨ao, cap, hv, hc, h2⟩ := h
  refine ⟨ao, cap, hv, hc, fun hne => ?_⟩
  obtain ⟨b', o, ha, h3⟩ := h2 hne
  exact ⟨b', o, ha, fun i x hx j u hu => hg.cell (h3 i x hx j u hu) (sne (hm.cell_ne (h3 i x hx j u hu)))⟩
theorem SharesAt.keptM {w w' : World} {E : TypeId} {b n : Nat} {f : ByteArray → Option Value} {v : Value} {l : List Share} (h : SharesAt w v l) (hm : SM w E b n f) (hg : w.grownBy w' (some b)) : SharesAt w' v l :=
  ⟨h.1.keptM hm hg, fun s hs => ⟨(h.2 s hs).1, (h.2 s hs).2.1, (h.2 s hs).2.2.1, (h.2 s hs).2.2.2.1, (h.2 s hs).2.2.2.2.1.keptM hm hg, (h.2 s hs).2.2.2.2.2⟩⟩
theorem MapAt.keptG {w w' : World} {mv : Value} {gs : List Grant} {g : Nat} (h : MapAt w mv gs) (hg : w.grownBy w' (some g)) (hne : ∀ b, mv = .map (some b) → b ≠ g) : MapAt w' mv gs := by
  rcases h with h | ⟨b, hb, hs⟩
  · exact Or.inl h
  · exact Or.inr ⟨b, hb, hs.kept hg (sne (hne b hb))⟩
theorem RolesM.keptM {w w' : World} {E : TypeId} {b n : Nat} {f : ByteArray → Option Value} {v : Value} {l : List Role} (h : RolesM w v l) (hm : SM w E b n f) (hg : w.grownBy w' (some b)) (hne : ∀ r ∈ l, ∀ b', r.gv = .map (some b') → b' ≠ b) : RolesM w' v l :=
  ⟨h.1.keptM hm hg, fun r hr => ⟨(h.2 r hr).1, (h.2 r hr).2.1, (h.2 r hr).2.2.1, (h.2 r hr).2.2.2.1, (h.2 r hr).2.2.2.2.keptG hg (hne r hr)⟩⟩
/-- The slice does not lie in block g. -/
def RowsNe (v : Value) (g : Nat) : Prop := ∀ a n c, v = .slice (some a) n c → n ≠ 0 → a.block ≠ g
theorem RowsAt.keptN {w w' : World} {g : Nat} {v : Value} {k : Nat} {xs : List (List Value)} (h : RowsAt w v k xs) (hg : w.grownBy w' (some g)) (hne : RowsNe v g) : RowsAt w' v k xs := by
  obtain ⟨ao, cap, hv, hc, h2⟩ := h
  refine ⟨ao, cap, hv, hc, fun hn => ?_⟩
  obtain ⟨b', o, ha, h3⟩ := h2 hn
  exact ⟨b', o, ha, fun i x hx j u hu => hg.cell (h3 i x hx j u hu) (sne (by have := hne ⟨b', o, none⟩ _ _ (by rw [hv, ha]) (fun e => hn (List.length_eq_zero_iff.1 e)); exact this))⟩
theorem StrsAt.keptN {w w' : World} {g : Nat} {v : Value} {l : List ByteArray} (h : StrsAt w v l) (hg : w.grownBy w' (some g)) (hne : RowsNe v g) : StrsAt w' v l := ⟨h.1.keptN hg hne, h.2⟩
theorem RolesM.keptN {w w' : World} {g : Nat} {v : Value} {l : List Role} (h : RolesM w v l) (hg : w.grownBy w' (some g)) (hne : RowsNe v g) (hmn : ∀ r ∈ l, ∀ b', r.gv = .map (some b') → b' ≠ g) : RolesM w' v l :=
  ⟨h.1.keptN hg hne, fun r hr => ⟨(h.2 r hr).1, (h.2 r hr).2.1, (h.2 r hr).2.2.1, (h.2 r hr).2.2.2.1, (h.2 r hr).2.2.2.2.keptG hg (hmn r hr)⟩⟩
theorem SharesAt.keptN {w w' : World} {g : Nat} {v : Value} {l : List Share} (h : SharesAt w v l) (hg : w.grownBy w' (some g)) (hne : RowsNe v g) (hp : ∀ s ∈ l, RowsNe s.pv g) : SharesAt w' v l :=
  ⟨h.1.keptN hg hne, fun s hs => ⟨(h.2 s hs).1, (h.2 s hs).2.1, (h.2 s hs).2.2.1, (h.2 s hs).2.2.2.1, (h.2 s hs).2.2.2.2.keptN hg (hp s hs)⟩⟩
theorem mapAt_ne {w : World} {b g : Nat} {gs : List Grant} {xs : List Value} (h : MapAt w (.map (some b)) gs) (hb : Blk w g xs) : b ≠ g := by
  rcases h with h | ⟨b', hb', hs⟩
  · cases h.1
  · cases hb'; exact (hs.blk_ne hb).symm
theorem setR1 {xs : List Value} {i : Nat} {v : Value} (hi : i < xs.length) : setR xs i [v] = xs.set i v := by
  unfold setR
  rw [List.set_eq_take_append_cons_drop, if_pos hi]
  simp
theorem strs_lt {w : World} {v : Value} {l : List ByteArray} (h : StrsAt w v l) {g : Nat} (hg : w.heap.size ≤ g) : RowsNe v g := by
  intro a n c hv hn
  subst hv
  obtain ⟨ao, cap, hv, _, h2⟩ := h.1
  simp only [Value.slice.injEq] at hv
  obtain ⟨rfl, rfl, rfl⟩ := hv
  cases l with
  | nil => exact absurd rfl hn
  | cons x r =>
    obtain ⟨b, o, ha, h3⟩ := h2 (by simp)
    cases ha
    have := cell_lt (h3 0 (strRow x) rfl 0 _ rfl)
    show b ≠ g
    omega
theorem core_mem {α β : Type} {f : α → β} {l l' : List α} (h : l'.map f = l.map f) {x : α} (hx : x ∈ l') : ∃ y ∈ l, f y = f x := by
  have : f x ∈ l'.map f := List.mem_map.2 ⟨x, hx, rfl⟩
  rw [h] at this
  obtain ⟨y, hy, e⟩ := List.mem_map.1 this
  exact ⟨y, hy, e⟩
theorem core_len {α β : Type} {f : α → β} {l l' : List α} (h : l'.map f = l.map f) : l'.length = l.length := by
  have := congrArg List.length h
  simpa using this
theorem core_set {α β : Type} {f : α → β} {l : List α} {k : Nat} {x y : α} (hk : l[k]? = some x) (he : f y = f x) : (l.set k y).map f = l.map f := by
  rw [List.map_set, he]
  apply List.ext_getElem?
  intro i
  rw [List.getElem?_set]
  by_cases hik : k = i
  · subst hik
    have hl := (List.getElem?_eq_some_iff.1 hk).1
    rw [if_pos rfl, List.getElem?_map, hk]
    simp [hl]
  · rw [if_neg hik]
/-- What a slice that slices.Clone has made is. -/
theorem cloned_strs {w w' : World} {l : List ByteArray} {v : Value} (h : Cloned w w' 1 (l.map strRow) v) (hok : ∀ s ∈ l, okStr s) : StrsAt w' v l ∧ ∀ g, g < w.heap.size → RowsNe v g := by
  obtain ⟨a, cap, rfl, hcap, h2⟩ := h
  constructor
  · refine ⟨?_, hok⟩
    by_cases hl : l.map strRow = []
    · rw [hl]; exact ⟨a, cap, rfl, by simp, fun hn => absurd rfl hn⟩
    · obtain ⟨g, cur, ha, _, hb, ht⟩ := h2 hl
      exact CB.rows (g := g) (fun _ => ⟨cur, hb, ht⟩) (by intro x hx; obtain ⟨s, _, rfl⟩ := List.mem_map.1 hx; rfl) (fun _ => ha) hcap
  · intro g hg a' n c e hn
    cases e
    obtain ⟨g', cur, ha, hle, _⟩ := h2 (fun e => hn (by rw [e]; rfl))
    cases ha
    show g' ≠ g
    omega
def ShOk (w : World) (gS m : Nat) (s : Share) : Prop := okStr s.id ∧ okStr s.owner ∧ okStr s.dest ∧ okStr s.by_ ∧ StrsAt w s.pv s.perms ∧ RowsNe s.pv gS ∧ RowsNe s.pv m
def NewPost (os : List Org) (rs : List Role) (ss : List Share) (an : List ByteArray) (w : World) : Ending → World → Prop := fun e w' =>
  ∃ m rl sl, e = .returned (.tuple #[.pointer (some ⟨m, 0, none⟩), .nilIface]) ∧ ModelAt w' m os rl sl an ∧ rl.map Role.core = rs.map Role.core ∧ sl.map Share.core = ss.map Share.core ∧ Ext w w'
set_option maxRecDepth 1000000 in
set_option maxHeartbeats 3200000 in
theorem newModel_t17 {x0 x2 x3 x5 x6 x7 x8 x9 x10 x11 x13 x14 x15 x16 x17 x18 x19 x20 x21 x22 x23 x24 x25 x26 x27 x28 x29 x30 x31 x32 x33 x34 x35 x36 x37 x38 x39 x40 x41 x42 x43 x44 x45 x46 x47 x48 x49 x50 x51 x52 x53 x54 x55 x56 x57 x58 x59 x60 x61 x62 x63 x64 x65 x66 x67 x68 x69 x70 x71 x72 x73 x74 x75 x76 x77 x78 x79 x80 x81 x82 x83 x84 x85 x86 x87 x88 x89 x90 x91 x92 x93 x94 x95 x96 x97 x98 x99 x100 x101 x102 x103 x104 x105 x106 x107 x108 x109 x110 x111 x112 x113 x114 x115 x116 x117 x118 x119 x120 x121 x122 x123 x124 x125 x126 x127 x128 x129 x130 x131 x132 x133 x134 x135 x136 x137 x138 x139 x140 x141 x142 x143 x144 x145 x146 x147 x148 x149 x150 x151 x152 x153 x154 x155 x156 x157 x158 x159 x160 x161 x162 x163 x164 x165 x166 x167 x168 x169 x170 x171 x172 x173 x174 x175 x176 x177 x178 x179 x180 x181 x182 x183 x184 x185 x186 x187 x188 x189 x190 x191 x192 x193 x194 x195 x196 x197 x198 x199 x200 x201 x202 x203 x204 x205 x206 x207 x208 x209 x210 x211 x212 x213 x214 : Value} (os : List Org) (rs rl : List Role) (ss sl : List Share) (an : List ByteArray) (A T m bR bA Nr : Nat) (aa : Option Addr) (ca : Nat) (vO vR0 vU0 vS0 : Value) (w wB wr0 : World)
    (hn : os.length ≤ 1048576) (hns : sl.length ≤ 1048576) (hna : an.length ≤ 1048576) (hwB : Ext w wB) (he : Ext wB wr0) (hT : TreeAt wB T os) (hmr : SM wB 3 bR Nr (posF (rs.map Role.id) (rs.map Role.id).length)) (hW : Blk wB A [vO, vR0, vU0, vS0, .slice none 0 0, .slice aa an.length ca]) (han : StrsAt wB (.slice aa an.length ca) an)
    (hrc : Hid (rl.map Role.core = rs.map Role.core)) (hsc : Hid (sl.map Share.core = ss.map Share.core)) (mB : wB.heap.size ≤ m) (aB : wB.heap.size ≤ bA) (nmA : m ≠ bA) (bO vR vU bU vS vc vd : Value) (gS gM : Nat) (S M : List Int) (hB : Blk wr0 m [.pointer (some ⟨T, 0, none⟩), bO, vR, .map (some bR), vU, bU, vS, .slice (some ⟨gS, 0, none⟩) (os.length + 1) (os.length + 1), .slice (some ⟨gM, 0, none⟩) (off (toKeys (os.map Org.id) sl) os.length) (off (toKeys (os.map Org.id) sl) os.length), vc, vd, .map (some bA)])
    (hR : RolesM wr0 vR rl) (hS : SharesAt wr0 vS sl) (hgr : Hid (Grouped (toKeys (os.map Org.id) sl) os.length S M)) (hgS : Blk wr0 gS (S.map iI)) (hgM : Blk wr0 gM (M.map iI)) (hA : SM wr0 4 bA 0 (setF [])) (hrb : ∀ r ∈ rl, ∀ b, r.gv = .map (some b) → b ≠ bA) :
    Code.wp Try.prog (dropSeq 17 (Try.f10.body.getD .skip)) (bodyPost Try.prog Try.f10 (NewPost os rs ss an w)) ⟨#[x0, .pointer (some ⟨A, 0, none⟩), x2, x3, .pointer (some ⟨T, 0, none⟩), x5, x6, x7, x8, x9, x10, x11, .pointer (some ⟨m, 0, none⟩), x13, x14, x15, x16, x17, x18, x19, x20, x21, x22, x23, x24, x25, x26, x27, x28, x29, x30, x31, x32, x33, x34, x35, x36, x37, x38, x39, x40, x41, x42, x43, x44, x45, x46, x47, x48, x49, x50, x51, x52, x53, x54, x55, x56, x57, x58, x59, x60, x61, x62, x63, x64, x65, x66, x67, x68, x69, x70, x71, x72, x73, x74, x75, x76, x77, x78, x79, x80, x81, x82, x83, x84, x85, x86, x87, x88, x89, x90, x91, x92, x93, x94, x95, x96, x97, x98, x99, x100, x101, x102, x103, x104, x105, x106, x107, x108, x109, x110, x111, x112, x113, x114, x115, x116, x117, x118, x119, x120, x121, x122, x123, x124, x125, x126, x127, x128, x129, x130, x131, x132, x133, x134, x135, x136, x137, x138, x139, x140, x141, x142, x143, x144, x145, x146, x147, x148, x149, x150, x151, x152, x153, x154, x155, x156, x157, x158, x159, x160, x161, x162, x163, x164, x165, x166, x167, x168, x169, x170, x171, x172, x173, x174, x175, x176, x177, x178, x179, x180, x181, x182, x183, x184, x185, x186, x187, x188, x189, x190, x191, x192, x193, x194, x195, x196, x197, x198, x199, x200, x201, x202, x203, x204, x205, x206, x207, x208, x209, x210, x211, x212, x213, x214], []⟩ wr0 := by
  conv => arg 2; whnf
  unfold NewPost
  have cW5 : wr0.cell? ⟨A, 5, none⟩ = some (.slice aa an.length ca) := (hW.ext he).cell rfl
  have lm := hB.lt
  have lA := hA.lt
  go_wp2_with fail
  go_loopw [204] (fun j wr => ∃ k : Nat, j = .int .i64 k ∧ k ≤ an.length ∧ SM wr 4 bA k (setF (an.take k)) ∧ wr0.grownBy wr (some bA)) (fun i _ => an.length - (intOf i).toNat)
  case atStart => exact ⟨0, rfl, Nat.zero_le _, by simpa using hA, World.grownBy.refl _ _⟩
  case round =>
    clear cW5
    obtain ⟨k, rfl, hk, hm, hg⟩ := hrel
    by_cases hlt : k < an.length
    · obtain ⟨o, ho⟩ := get_at an k hlt
      obtain ⟨bb, o2, rfl, c0, ok⟩ := han.at ho
      have d0 := (grown_ext he hg (fun j e => by cases e; exact aB)).cell c0
      have cm : wr.cell? ⟨m, 11, none⟩ = some (.map (some bA)) := (hB.kept hg (sne nmA)).cell rfl
      have HO : Hid (an[k]? = some o) := ho
      clear ho
      go_wp2_with (at_mapUpdate; refine wpList_put _ rfl _ _ _ rfl Try.underlying86 bA k _ rfl hm (by unfold maxLen; omega) _ rfl ok _ rfl (plain4 true) ?_; intro w1 hsm1 hgrow1)
      go_roundw
      case rel => exact ⟨k + 1, by go_num, by omega, by rw [← setF_succ HO.out]; exact hsm1, hg.trans hgrow1⟩
      case measure => simp [intOf]; omega
    · obtain rfl : k = an.length := by omega
      rw [List.take_length] at hm
      have hex := grown_ext he hg (fun j e => by cases e; exact aB)
      have hids : rl.map Role.id = rs.map Role.id := by
        have := congrArg (List.map (fun c => c.1)) hrc.out
        simpa [List.map_map, Function.comp_def, Role.core] using this
      have hmr' := hmr
      rw [← hids] at hmr'
      clear hids
      go_wp2
      go_ret2
      exact ⟨m, rl, sl, rfl, ⟨T, bO, vR, bR, vU, bU, vS, gS, gM, vc, vd, bA, S, M, Nr, an.length, hB.kept hg (sne nmA), hT.ext hex, hR.keptM hA hg hrb, hmr'.ext hex, hS.keptM hA hg, hgr.out, hgS.kept hg (sne (hA.blk_ne hgS)), hgM.kept hg (sne (hA.blk_ne hgM)), hm⟩, hrc.out, hsc.out, hwB.trans hex⟩
set_option maxRecDepth 1000000 in
set_option maxHeartbeats 3200000 in
theorem newModel_t16 {x0 x2 x3 x5 x6 x7 x8 x9 x10 x11 x13 x14 x15 x16 x17 x18 x19 x20 x21 x22 x23 x24 x25 x26 x27 x28 x29 x30 x31 x32 x33 x34 x35 x36 x37 x38 x39 x40 x41 x42 x43 x44 x45 x46 x47 x48 x49 x50 x51 x52 x53 x54 x55 x56 x57 x58 x59 x60 x61 x62 x63 x64 x65 x66 x67 x68 x69 x70 x71 x72 x73 x74 x75 x76 x77 x78 x79 x80 x81 x82 x83 x84 x85 x86 x87 x88 x89 x90 x91 x92 x93 x94 x95 x96 x97 x98 x99 x100 x101 x102 x103 x104 x105 x106 x107 x108 x109 x110 x111 x112 x113 x114 x115 x116 x117 x118 x119 x120 x121 x122 x123 x124 x125 x126 x127 x128 x129 x130 x131 x132 x133 x134 x135 x136 x137 x138 x139 x140 x141 x142 x143 x144 x145 x146 x147 x148 x149 x150 x151 x152 x153 x154 x155 x156 x157 x158 x159 x160 x161 x162 x163 x164 x165 x166 x167 x168 x169 x170 x171 x172 x173 x174 x175 x176 x177 x178 x179 x180 x181 x182 x183 x184 x185 x186 x187 x188 x189 x190 x191 x192 x193 x194 x195 x196 x197 x198 x199 x200 x201 x202 x203 x204 x205 x206 x207 x208 x209 x210 x211 x212 x213 x214 : Value} (os : List Org) (rs rl : List Role) (ss sl : List Share) (an : List ByteArray) (A T m bR bA Nr : Nat) (aa : Option Addr) (ca : Nat) (vO vR0 vU0 vS0 : Value) (w wB wr0 : World)
    (hn : os.length ≤ 1048576) (hns : sl.length ≤ 1048576) (hna : an.length ≤ 1048576) (hwB : Ext w wB) (he : Ext wB wr0) (hT : TreeAt wB T os) (hmr : SM wB 3 bR Nr (posF (rs.map Role.id) (rs.map Role.id).length)) (hW : Blk wB A [vO, vR0, vU0, vS0, .slice none 0 0, .slice aa an.length ca]) (han : StrsAt wB (.slice aa an.length ca) an)
    (hrc : Hid (rl.map Role.core = rs.map Role.core)) (hsc : Hid (sl.map Share.core = ss.map Share.core)) (mB : wB.heap.size ≤ m) (aB : wB.heap.size ≤ bA) (nmA : m ≠ bA) (bO vR vU bU vc vd : Value) (aS : Option Addr) (cS : Nat) (hB : Blk wr0 m [.pointer (some ⟨T, 0, none⟩), bO, vR, .map (some bR), vU, bU, .slice aS sl.length cS, .slice none 0 0, .slice none 0 0, vc, vd, .map (some bA)])
    (hR : RolesM wr0 vR rl) (hS : SharesAt wr0 (.slice aS sl.length cS) sl) (hA : SM wr0 4 bA 0 (setF [])) (hrb : ∀ r ∈ rl, ∀ b, r.gv = .map (some b) → b ≠ bA) (hdest : ∀ s ∈ sl, s.dest ∈ os.map Org.id) (hRn : RowsNe vR m) (hSn : RowsNe (.slice aS sl.length cS) m) (hPn : ∀ s ∈ sl, RowsNe s.pv m) :
    Code.wp Try.prog (dropSeq 16 (Try.f10.body.getD .skip)) (bodyPost Try.prog Try.f10 (NewPost os rs ss an w)) ⟨#[x0, .pointer (some ⟨A, 0, none⟩), x2, x3, .pointer (some ⟨T, 0, none⟩), x5, x6, x7, x8, x9, x10, x11, .pointer (some ⟨m, 0, none⟩), x13, x14, x15, x16, x17, x18, x19, x20, x21, x22, x23, x24, x25, x26, x27, x28, x29, x30, x31, x32, x33, x34, x35, x36, x37, x38, x39, x40, x41, x42, x43, x44, x45, x46, x47, x48, x49, x50, x51, x52, x53, x54, x55, x56, x57, x58, x59, x60, x61, x62, x63, x64, x65, x66, x67, x68, x69, x70, x71, x72, x73, x74, x75, x76, x77, x78, x79, x80, x81, x82, x83, x84, x85, x86, x87, x88, x89, x90, x91, x92, x93, x94, x95, x96, x97, x98, x99, x100, x101, x102, x103, x104, x105, x106, x107, x108, x109, x110, x111, x112, x113, x114, x115, x116, x117, x118, x119, x120, x121, x122, x123, x124, x125, x126, x127, x128, x129, x130, x131, x132, x133, x134, x135, x136, x137, x138, x139, x140, x141, x142, x143, x144, x145, x146, x147, x148, x149, x150, x151, x152, x153, x154, x155, x156, x157, x158, x159, x160, x161, x162, x163, x164, x165, x166, x167, x168, x169, x170, x171, x172, x173, x174, x175, x176, x177, x178, x179, x180, x181, x182, x183, x184, x185, x186, x187, x188, x189, x190, x191, x192, x193, x194, x195, x196, x197, x198, x199, x200, x201, x202, x203, x204, x205, x206, x207, x208, x209, x210, x211, x212, x213, x214], []⟩ wr0 := by
  conv => arg 2; whnf
  obtain ⟨gi, bp, gp, tS, tM, S1, M1, sv, rv, Nn, t1, t2, t3, t4, t5, t6⟩ := hT.ex
  have hrm : ∀ r ∈ rl, ∀ b, r.gv = .map (some b) → b ≠ m := fun r hr b hb => mapAt_ne (by have := (hR.2 r hr).2.2.2.2; rw [hb] at this; exact this) hB
  have cm6 : wr0.cell? ⟨m, 6, none⟩ = some (.slice aS sl.length cS) := hB.cell rfl
  have cT0 : wr0.cell? ⟨T, 0, none⟩ = some (.slice (some ⟨gi, 0, none⟩) (os.map Org.id).length (os.map Org.id).length) := by rw [List.length_map]; exact (t1.ext he).cell rfl
  have cT1 : wr0.cell? ⟨T, 1, none⟩ = some (.map (some bp)) := (t1.ext he).cell rfl
  have hcall : Calls Try.prog 43 #[.pointer (some ⟨T, 0, none⟩), .slice aS sl.length cS] wr0 (GroupsPost (toKeys (os.map Org.id) sl) os.length wr0) := by
    have := indexShares_any T bp Nn (os.map Org.id) (some ⟨gi, 0, none⟩) (os.map Org.id).length (.slice aS sl.length cS) sl wr0 cT0 cT1 (t2.ext he) hS hdest hns (by rw [List.length_map]; exact hn)
    rw [List.length_map] at this
    exact this
  have hml := hB.lt
  clear cT0 cT1 t1 t2 t3 t4 t5 t6
  repeat (first
    | (exact newModel_t17 os rs rl ss sl an A T m bR bA Nr aa ca vO vR0 vU0 vS0 w wB w2 hn hns hna hwB he2 hT hmr hW han hrc hsc mB aB nmA bO vR vU bU (.slice aS sl.length cS) vc vd gS gM S M hB2 hR2 hS2 hgr hgS2 hgM2 hA2 hrb)
    | (go_at_call 43; refine hcall.mono ?_; rintro e w1 ⟨gS, gM, S, M, hgr', hgS, hgM, lS, lM, rfl, hx1⟩; have hgr : Hid (Grouped (toKeys (os.map Org.id) sl) os.length S M) := hgr'; have hB1 := hB.ext hx1; have hA1 := hA.ext hx1; have hR1 := hR.ext hx1; have hS1 := hS.ext hx1; have he1 := he.trans hx1; clear hgr' cm6)
    | (refine wpList_st w1 rfl 115 (.tmp 199) (.tmp 197) rfl m 7 _ (.agg #[.slice (some ⟨gS, 0, none⟩) (os.length + 1) (os.length + 1), .slice (some ⟨gM, 0, none⟩) (Qxb6609292a.off (toKeys (os.map Org.id) sl) os.length) (Qxb6609292a.off (toKeys (os.map Org.id) sl) os.length)]) [.slice (some ⟨gS, 0, none⟩) (os.length + 1) (os.length + 1), .slice (some ⟨gM, 0, none⟩) (Qxb6609292a.off (toKeys (os.map Org.id) sl) os.length) (Qxb6609292a.off (toKeys (os.map Org.id) sl) os.length)] rfl hB1 rfl rfl Try.info115 (by simp) (by simp [Value.oneCell']) ?_; intro w2 hB2' hg2; have hB2 : Blk w2 m [.pointer (some ⟨T, 0, none⟩), bO, vR, .map (some bR), vU, bU, .slice aS sl.length cS, .slice (some ⟨gS, 0, none⟩) (os.length + 1) (os.length + 1), .slice (some ⟨gM, 0, none⟩) (Qxb6609292a.off (toKeys (os.map Org.id) sl) os.length) (Qxb6609292a.off (toKeys (os.map Org.id) sl) os.length), vc, vd, .map (some bA)] := hB2'; have hA2 := hA1.kept hg2 (sne nmA.symm); have hgS2 := hgS.kept hg2 (sne (by omega)); have hgM2 := hgM.kept hg2 (sne (by omega)); have he2 := ext_st he1 hg2 mB; have hR2 := hR1.keptN hg2 hRn hrm; have hS2 := hS1.keptN hg2 hSn hPn)
    | go_values | go_skip | go_guarded | go_step | go_upon | (simp only [Int.not_lt, Int.not_le] at *; go_simp))


end Go.Proofs.Qxb6609292a
