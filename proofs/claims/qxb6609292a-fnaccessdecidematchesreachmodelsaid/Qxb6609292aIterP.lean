/-
  For seat b6609292a: what the iterator of Model.reached hands over, in plain words; what a round keeps.
-/
import Derived.Test.Qxb6609292aOwn
import Derived.Test.Qxb6609292aHeld
set_option linter.unusedVariables false
set_option linter.unusedSimpArgs false
namespace Go.Proofs.Qxb6609292a
open Go.RowKit Go.Maps

abbrev Vis := Nat × Int × Int
def encV (x : Vis) : Array Value := #[.int .i64 (x.1 : Int), .agg #[.int .i64 x.2.1, .int .i64 x.2.2]]
def v1 (own : List Nat) : List Vis := own.map fun p => (p, 1, 0)
def vsh (ids : List ByteArray) (ss : List Share) (perm : ByteArray) (s : Nat) : List Vis := match ss[s]? with
  | some sh => if cov perm sh.perms = true then [(posD ids sh.owner, 2, (s : Int))] else []
  | none => []
def vgr (ids : List ByteArray) (ss : List Share) (perm : ByteArray) (p : Nat) : List Vis := (kids (toKeys ids ss) p).flatMap (vsh ids ss perm)
def v2 (ids : List ByteArray) (ss : List Share) (perm : ByteArray) (own : List Nat) : List Vis := own.flatMap (vgr ids ss perm)
def v3 (A : List Nat) : List Vis := A.map fun p => (p, 3, 0)
def UpR (os : List Org) (an : List ByteArray) (perm : ByteArray) (tz : Int) (A : List Nat) : Prop := 0 ≤ tz ∧ perm ∈ an ∧ upL (parL os) (par (parL os) tz) A
/-- All that is handed over. -/
def VisS (os : List Org) (rs : List Role) (ss : List Share) (an : List ByteArray) (role perm : ByteArray) (xs : List Vis) : Prop :=
  ∃ tz own A, OwnR os rs role perm tz own ∧ (((tz < 0 ∨ perm ∉ an) ∧ A = []) ∨ UpR os an perm tz A) ∧ xs = v1 own ++ v2 (os.map Org.id) ss perm own ++ v3 A
/-- A part of it. -/
def VisP (os : List Org) (rs : List Role) (ss : List Share) (an : List ByteArray) (role perm : ByteArray) (pre : List Vis) : Prop :=
  ∃ tz own A, OwnR os rs role perm tz own ∧ (A = [] ∨ UpR os an perm tz A) ∧ pre <+: v1 own ++ v2 (os.map Org.id) ss perm own ++ v3 A
def visN (os : List Org) (ss : List Share) : Nat := os.length + os.length * ss.length + os.length + 1
theorem vsh_len (ids : List ByteArray) (ss : List Share) (perm : ByteArray) (s : Nat) : (vsh ids ss perm s).length ≤ 1 := by
  unfold vsh; split
  · split <;> simp
  · simp
theorem fmap_len {α β : Type} (f : α → List β) (m : Nat) (h : ∀ x, (f x).length ≤ m) : ∀ l : List α, (l.flatMap f).length ≤ l.length * m
  | [] => by simp
  | x :: r => by
    rw [List.flatMap_cons, List.length_append, List.length_cons, Nat.add_mul, Nat.one_mul]
    have := fmap_len f m h r
    have := h x
    omega
theorem kids_le (keys : List Int) (k : Nat) : (kids keys k).length ≤ keys.length := by rw [kids_len]; exact List.count_le_length
theorem toKeys_len (ids : List ByteArray) (ss : List Share) : (toKeys ids ss).length = ss.length := by simp [toKeys]
theorem vgr_len (ids : List ByteArray) (ss : List Share) (perm : ByteArray) (p : Nat) : (vgr ids ss perm p).length ≤ ss.length := by
  have h1 := fmap_len (vsh ids ss perm) 1 (vsh_len ids ss perm) (kids (toKeys ids ss) p)
  have h2 := kids_le (toKeys ids ss) p
  rw [toKeys_len] at h2
  unfold vgr; omega
theorem own_lt {os : List Org} {rs : List Role} {role perm : ByteArray} {tz : Int} {own : List Nat} (h : OwnR os rs role perm tz own) (hv : ∀ r ∈ rs, r.org ∈ os.map Org.id) : ∀ p ∈ own, p < os.length := by
  rcases h with ⟨k, r, sc, h1, h2, h3, h4, h5⟩ | ⟨_, _, rfl⟩
  · have hp := posD_lt (hv r (List.mem_of_getElem? h2))
    rw [List.length_map] at hp
    rcases h5 with ⟨_, rfl⟩ | ⟨_, hs⟩
    · intro p hp'; simp at hp'; rw [hp']; exact hp
    · intro p hp'; have := hs.lt p hp'; rw [parL_len] at this; exact this
  · intro p hp; cases hp
theorem own_len {os : List Org} {rs : List Role} {role perm : ByteArray} {tz : Int} {own : List Nat} (h : OwnR os rs role perm tz own) (hv : ∀ r ∈ rs, r.org ∈ os.map Org.id) : own.length ≤ os.length := by
  have hlt := own_lt h hv
  rcases h with ⟨k, r, sc, h1, h2, h3, h4, h5⟩ | ⟨_, _, rfl⟩
  · rcases h5 with ⟨_, rfl⟩ | ⟨_, hs⟩
    · have := hlt _ (List.mem_singleton.2 rfl); simp; omega
    · exact nodup_bound _ _ hs.nd hlt
  · simp
theorem own_tz {os : List Org} {rs : List Role} {role perm : ByteArray} {tz : Int} {own : List Nat} (h : OwnR os rs role perm tz own) (hv : ∀ r ∈ rs, r.org ∈ os.map Org.id) : tz = -1 ∨ ∃ q : Nat, tz = q ∧ q < os.length := by
  rcases h with ⟨k, r, sc, h1, h2, h3, h4, h5⟩ | ⟨_, h, _⟩
  · have hp := posD_lt (hv r (List.mem_of_getElem? h2))
    rw [List.length_map] at hp
    exact Or.inr ⟨_, h4, hp⟩
  · exact Or.inl h
theorem v2_len (ids : List ByteArray) (ss : List Share) (perm : ByteArray) (own : List Nat) (n : Nat) (h : own.length ≤ n) : (v2 ids ss perm own).length ≤ n * ss.length :=
  Nat.le_trans (fmap_len (vgr ids ss perm) ss.length (vgr_len ids ss perm) own) (Nat.mul_le_mul_right _ h)

/-- What the loop's body may know of what it is handed. -/
def VOk (rs : List Role) (ss : List Share) (role : ByteArray) (x : Vis) : Prop :=
  (x.2.1 = 2 ∧ ∃ (s : Nat) (sh : Share), x.2.2 = (s : Int) ∧ ss[s]? = some sh) ∨ ((x.2.1 = 1 ∨ x.2.1 = 3) ∧ ∃ k r, idxTo (rs.map Role.id) (rs.map Role.id).length role = some k ∧ rs[k]? = some r)
theorem own_ok {os : List Org} {rs : List Role} {role perm : ByteArray} {tz : Int} {own : List Nat} (h : OwnR os rs role perm tz own) (hne : (∃ p, p ∈ own) ∨ 0 ≤ tz) : ∃ k r, idxTo (rs.map Role.id) (rs.map Role.id).length role = some k ∧ rs[k]? = some r := by
  rcases h with ⟨k, r, sc, h1, h2, _⟩ | ⟨_, rfl, rfl⟩
  · exact ⟨k, r, h1, h2⟩
  · rcases hne with ⟨p, hp⟩ | h
    · cases hp
    · exact absurd h (by decide)

/-- What a round keeps: all that lay below n₀; all cells. -/
structure Kc (n₀ : Nat) (W W' : World) : Prop where
  b : Below n₀ W W'
  c : ∀ (k : Nat) (xs : Array Value) (T : TypeId) (z : Nat × Nat), W.heap[k]? = some (.cells xs T z) → W'.heap[k]? = some (.cells xs T z)
theorem Kc.trans {n₀ : Nat} {A B C : World} (h : Kc n₀ A B) (k : Kc n₀ B C) : Kc n₀ A C := ⟨h.b.trans k.b, fun i xs T z hi => k.c i xs T z (h.c i xs T z hi)⟩
theorem Kc.of_ext {n₀ : Nat} {A B : World} (h : Ext A B) (hn : n₀ ≤ A.heap.size) : Kc n₀ A B := ⟨Below.mono h hn, fun i xs T z hi => h.block hi⟩
theorem Kc.cell {n₀ : Nat} {W W' : World} (h : Kc n₀ W W') {b o : Nat} {v : Value} (hc : W.cell? ⟨b, o, none⟩ = some v) : W'.cell? ⟨b, o, none⟩ = some v := by
  unfold World.cell? at *
  cases hb : W.heap[b]? with
  | none => simp [hb] at hc
  | some x =>
    cases x with
    | cells xs T z => rw [h.c b xs T z hb]; rw [hb] at hc; exact hc
    | _ => simp [hb] at hc
theorem IntsAt.kc {n₀ : Nat} {W W' : World} {v : Value} {l : List Nat} (h : IntsAt W v l) (hk : Kc n₀ W W') : IntsAt W' v l := by
  obtain ⟨a, cap, hv, h2⟩ := h
  refine ⟨a, cap, hv, fun i x hi => ?_⟩
  obtain ⟨b, o, ha, hc⟩ := h2 i x hi
  exact ⟨b, o, ha, hk.cell hc⟩
theorem grown_of_ext {A B : World} (h : Ext A B) : A.grownBy B none := ⟨h.os, h.tape, h.output, h.size, fun i hi _ => Below.block h i hi⟩
theorem abides_ext {β : Type} {N : Nat} {J : β → World → Prop} (h : AbidesFrom N J) {s : β} {A B : World} (hs : J s A) (he : Ext A B) : J s B := h s A B none hs (grown_of_ext he) (fun r e => by cases e)
theorem Ext.kc {w A B : World} (h : Ext w A) (k : Kc w.heap.size A B) : Ext w B := Below.trans h k.b
end Go.Proofs.Qxb6609292a
