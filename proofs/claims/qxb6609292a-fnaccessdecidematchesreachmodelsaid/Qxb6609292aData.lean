/-
  DATA for seat b6609292a: the law's arguments as plain data, and how they lie in memory.
-/
import Derived.Test.Qxb6609292aBase
set_option linter.unusedVariables false
namespace Go.Proofs.Qxb6609292a
open Go.RowKit Go.Maps

structure Org where
  id : ByteArray
  name : ByteArray
  parent : ByteArray
structure Grant where
  name : ByteArray
  scope : Int
structure Role where
  id : ByteArray
  name : ByteArray
  org : ByteArray
  gv : Value
  grants : List Grant
structure User where
  id : ByteArray
  rv : Value
  roles : List ByteArray
structure Share where
  id : ByteArray
  owner : ByteArray
  dest : ByteArray
  pv : Value
  perms : List ByteArray
  by_ : ByteArray

def Org.row (o : Org) : List Value := [.string o.id, .string o.name, .string o.parent]
def Grant.row (g : Grant) : List Value := [.string g.name, .int .i64 g.scope]
def Role.row (r : Role) : List Value := [.string r.id, .string r.name, .string r.org, r.gv]
def User.row (u : User) : List Value := [.string u.id, u.rv]
def Share.row (s : Share) : List Value := [.string s.id, .string s.owner, .string s.dest, s.pv, .string s.by_]
def strRow (s : ByteArray) : List Value := [.string s]

def wf64 (n : Int) : Prop := -9223372036854775808 ≤ n ∧ n ≤ 9223372036854775807
def Org.ok (o : Org) : Prop := okStr o.id ∧ okStr o.name ∧ okStr o.parent
def OrgsAt (w : World) (v : Value) (l : List Org) : Prop := RowsAt w v 3 (l.map Org.row) ∧ ∀ o ∈ l, o.ok
def StrsAt (w : World) (v : Value) (l : List ByteArray) : Prop := RowsAt w v 1 (l.map strRow) ∧ ∀ s ∈ l, okStr s
def GrantsAt (w : World) (v : Value) (l : List Grant) : Prop := RowsAt w v 2 (l.map Grant.row) ∧ ∀ g ∈ l, okStr g.name ∧ wf64 g.scope
def Role.ok (w : World) (r : Role) : Prop := okStr r.id ∧ okStr r.name ∧ okStr r.org ∧ GrantsAt w r.gv r.grants
def RolesAt (w : World) (v : Value) (l : List Role) : Prop := RowsAt w v 4 (l.map Role.row) ∧ ∀ r ∈ l, r.ok w
def User.ok (w : World) (u : User) : Prop := okStr u.id ∧ StrsAt w u.rv u.roles
def UsersAt (w : World) (v : Value) (l : List User) : Prop := RowsAt w v 2 (l.map User.row) ∧ ∀ u ∈ l, u.ok w
def Share.ok (w : World) (s : Share) : Prop := okStr s.id ∧ okStr s.owner ∧ okStr s.dest ∧ okStr s.by_ ∧ StrsAt w s.pv s.perms
def SharesAt (w : World) (v : Value) (l : List Share) : Prop := RowsAt w v 5 (l.map Share.row) ∧ ∀ s ∈ l, s.ok w

theorem OrgsAt.ext {w w' : World} {v : Value} {l : List Org} (h : OrgsAt w v l) (he : Ext w w') : OrgsAt w' v l := ⟨h.1.ext he, h.2⟩
theorem StrsAt.ext {w w' : World} {v : Value} {l : List ByteArray} (h : StrsAt w v l) (he : Ext w w') : StrsAt w' v l := ⟨h.1.ext he, h.2⟩
theorem GrantsAt.ext {w w' : World} {v : Value} {l : List Grant} (h : GrantsAt w v l) (he : Ext w w') : GrantsAt w' v l := ⟨h.1.ext he, h.2⟩
theorem RolesAt.ext {w w' : World} {v : Value} {l : List Role} (h : RolesAt w v l) (he : Ext w w') : RolesAt w' v l :=
  ⟨h.1.ext he, fun r hr => ⟨(h.2 r hr).1, (h.2 r hr).2.1, (h.2 r hr).2.2.1, (h.2 r hr).2.2.2.ext he⟩⟩
theorem UsersAt.ext {w w' : World} {v : Value} {l : List User} (h : UsersAt w v l) (he : Ext w w') : UsersAt w' v l :=
  ⟨h.1.ext he, fun r hr => ⟨(h.2 r hr).1, (h.2 r hr).2.ext he⟩⟩
theorem SharesAt.ext {w w' : World} {v : Value} {l : List Share} (h : SharesAt w v l) (he : Ext w w') : SharesAt w' v l :=
  ⟨h.1.ext he, fun r hr => ⟨(h.2 r hr).1, (h.2 r hr).2.1, (h.2 r hr).2.2.1, (h.2 r hr).2.2.2.1, (h.2 r hr).2.2.2.2.ext he⟩⟩

/-- The value's shape. -/
theorem RowsAt.shape {w : World} {v : Value} {k : Nat} {xs : List (List Value)} (h : RowsAt w v k xs) : ∃ ao cap, v = .slice ao xs.length cap ∧ xs.length ≤ cap := by
  obtain ⟨ao, cap, hv, hc, _⟩ := h; exact ⟨ao, cap, hv, hc⟩
theorem RowsAt.at {w : World} {ao : Option Addr} {n cap k : Nat} {xs : List (List Value)} (h : RowsAt w (.slice ao n cap) k xs) {i : Nat} {x : List Value} (hi : xs[i]? = some x) :
    ∃ b off, ao = some ⟨b, off, none⟩ ∧ ∀ j u, x[j]? = some u → w.cell? ⟨b, off + i * k + j, none⟩ = some u := by
  obtain ⟨ao', cap', hv, _, h2⟩ := h
  simp only [Value.slice.injEq] at hv
  obtain ⟨rfl, _, _⟩ := hv
  obtain ⟨b, off, ha, h3⟩ := h2 (by intro h0; rw [h0] at hi; simp at hi)
  exact ⟨b, off, ha, fun j u hu => h3 i x hi j u hu⟩

theorem OrgsAt.at {w : World} {ao : Option Addr} {n cap : Nat} {l : List Org} (h : OrgsAt w (.slice ao n cap) l) {i : Nat} {o : Org} (hi : l[i]? = some o) :
    ∃ b off, ao = some ⟨b, off, none⟩ ∧ w.cell? ⟨b, off + i * 3, none⟩ = some (.string o.id) ∧ w.cell? ⟨b, off + i * 3 + 1, none⟩ = some (.string o.name) ∧ w.cell? ⟨b, off + i * 3 + 2, none⟩ = some (.string o.parent) ∧ o.ok := by
  obtain ⟨b, off, ha, h3⟩ := h.1.at (i := i) (x := o.row) (by rw [List.getElem?_map, hi]; rfl)
  exact ⟨b, off, ha, h3 0 _ rfl, h3 1 _ rfl, h3 2 _ rfl, h.2 o (List.mem_of_getElem? hi)⟩
theorem GrantsAt.at {w : World} {ao : Option Addr} {n cap : Nat} {l : List Grant} (h : GrantsAt w (.slice ao n cap) l) {i : Nat} {o : Grant} (hi : l[i]? = some o) :
    ∃ b off, ao = some ⟨b, off, none⟩ ∧ w.cell? ⟨b, off + i * 2, none⟩ = some (.string o.name) ∧ w.cell? ⟨b, off + i * 2 + 1, none⟩ = some (.int .i64 o.scope) ∧ okStr o.name ∧ wf64 o.scope := by
  obtain ⟨b, off, ha, h3⟩ := h.1.at (i := i) (x := o.row) (by rw [List.getElem?_map, hi]; rfl)
  exact ⟨b, off, ha, h3 0 _ rfl, h3 1 _ rfl, h.2 o (List.mem_of_getElem? hi)⟩
theorem RolesAt.at {w : World} {ao : Option Addr} {n cap : Nat} {l : List Role} (h : RolesAt w (.slice ao n cap) l) {i : Nat} {o : Role} (hi : l[i]? = some o) :
    ∃ b off, ao = some ⟨b, off, none⟩ ∧ w.cell? ⟨b, off + i * 4, none⟩ = some (.string o.id) ∧ w.cell? ⟨b, off + i * 4 + 1, none⟩ = some (.string o.name) ∧ w.cell? ⟨b, off + i * 4 + 2, none⟩ = some (.string o.org) ∧ w.cell? ⟨b, off + i * 4 + 3, none⟩ = some o.gv ∧ o.ok w := by
  obtain ⟨b, off, ha, h3⟩ := h.1.at (i := i) (x := o.row) (by rw [List.getElem?_map, hi]; rfl)
  exact ⟨b, off, ha, h3 0 _ rfl, h3 1 _ rfl, h3 2 _ rfl, h3 3 _ rfl, h.2 o (List.mem_of_getElem? hi)⟩
theorem UsersAt.at {w : World} {ao : Option Addr} {n cap : Nat} {l : List User} (h : UsersAt w (.slice ao n cap) l) {i : Nat} {o : User} (hi : l[i]? = some o) :
    ∃ b off, ao = some ⟨b, off, none⟩ ∧ w.cell? ⟨b, off + i * 2, none⟩ = some (.string o.id) ∧ w.cell? ⟨b, off + i * 2 + 1, none⟩ = some o.rv ∧ o.ok w := by
  obtain ⟨b, off, ha, h3⟩ := h.1.at (i := i) (x := o.row) (by rw [List.getElem?_map, hi]; rfl)
  exact ⟨b, off, ha, h3 0 _ rfl, h3 1 _ rfl, h.2 o (List.mem_of_getElem? hi)⟩
theorem SharesAt.at {w : World} {ao : Option Addr} {n cap : Nat} {l : List Share} (h : SharesAt w (.slice ao n cap) l) {i : Nat} {o : Share} (hi : l[i]? = some o) :
    ∃ b off, ao = some ⟨b, off, none⟩ ∧ w.cell? ⟨b, off + i * 5, none⟩ = some (.string o.id) ∧ w.cell? ⟨b, off + i * 5 + 1, none⟩ = some (.string o.owner) ∧ w.cell? ⟨b, off + i * 5 + 2, none⟩ = some (.string o.dest) ∧ w.cell? ⟨b, off + i * 5 + 3, none⟩ = some o.pv ∧ w.cell? ⟨b, off + i * 5 + 4, none⟩ = some (.string o.by_) ∧ o.ok w := by
  obtain ⟨b, off, ha, h3⟩ := h.1.at (i := i) (x := o.row) (by rw [List.getElem?_map, hi]; rfl)
  exact ⟨b, off, ha, h3 0 _ rfl, h3 1 _ rfl, h3 2 _ rfl, h3 3 _ rfl, h3 4 _ rfl, h.2 o (List.mem_of_getElem? hi)⟩
theorem StrsAt.at {w : World} {ao : Option Addr} {n cap : Nat} {l : List ByteArray} (h : StrsAt w (.slice ao n cap) l) {i : Nat} {o : ByteArray} (hi : l[i]? = some o) :
    ∃ b off, ao = some ⟨b, off, none⟩ ∧ w.cell? ⟨b, off + i, none⟩ = some (.string o) ∧ okStr o := by
  obtain ⟨b, off, ha, h3⟩ := h.1.at (i := i) (x := strRow o) (by rw [List.getElem?_map, hi]; rfl)
  have := h3 0 _ rfl
  rw [Nat.mul_one] at this
  exact ⟨b, off, ha, this, h.2 o (List.mem_of_getElem? hi)⟩

theorem OrgsAt.shape {w : World} {v : Value} {l : List Org} (h : OrgsAt w v l) : ∃ ao cap, v = .slice ao l.length cap ∧ l.length ≤ cap := by simpa using h.1.shape
theorem GrantsAt.shape {w : World} {v : Value} {l : List Grant} (h : GrantsAt w v l) : ∃ ao cap, v = .slice ao l.length cap ∧ l.length ≤ cap := by simpa using h.1.shape
theorem RolesAt.shape {w : World} {v : Value} {l : List Role} (h : RolesAt w v l) : ∃ ao cap, v = .slice ao l.length cap ∧ l.length ≤ cap := by simpa using h.1.shape
theorem UsersAt.shape {w : World} {v : Value} {l : List User} (h : UsersAt w v l) : ∃ ao cap, v = .slice ao l.length cap ∧ l.length ≤ cap := by simpa using h.1.shape
theorem SharesAt.shape {w : World} {v : Value} {l : List Share} (h : SharesAt w v l) : ∃ ao cap, v = .slice ao l.length cap ∧ l.length ≤ cap := by simpa using h.1.shape
theorem StrsAt.shape {w : World} {v : Value} {l : List ByteArray} (h : StrsAt w v l) : ∃ ao cap, v = .slice ao l.length cap ∧ l.length ≤ cap := by simpa using h.1.shape

theorem get_at {α : Type} (l : List α) (k : Nat) (h : k < l.length) : ∃ o, l[k]? = some o := ⟨_, List.getElem?_eq_getElem h⟩

/-- The last place among the first k at which s stands. -/
def idxTo (ids : List ByteArray) : Nat → ByteArray → Option Nat
  | 0, _ => none
  | k + 1, s => if ids[k]? = some s then some k else idxTo ids k s
def iv (n : Nat) : Value := .int .i64 n
def posF (ids : List ByteArray) (k : Nat) : ByteArray → Option Value := fun s => (idxTo ids k s).map iv
theorem posF_succ (ids : List ByteArray) (k : Nat) (s : ByteArray) (h : ids[k]? = some s) : upd (posF ids k) s (iv k) = posF ids (k + 1) := by
  funext t
  show (if t = s then some (iv k) else (idxTo ids k t).map iv) = (if ids[k]? = some t then some k else idxTo ids k t).map iv
  rw [h]
  by_cases e : t = s
  · rw [if_pos e, if_pos (by rw [e])]; rfl
  · rw [if_neg e, if_neg (by intro h2; exact e (Option.some.inj h2).symm)]
theorem plain3 (n : Nat) (h : n ≤ 9223372036854775807) : plainElem (H := Unit) Try.prog 3 (iv n) = some (.lit (.int .i64 n), []) :=
  plainElem_int Try.underlying3 (by simp [Lit.wf, IntKind.min, IntKind.max, IntKind.signed, IntKind.bits]; omega)
theorem zero3 (w : World) : (zeroValue 3).run Try.prog w = .ok (.int .i64 0) w := by kernel_rfl
theorem zero4 (w : World) : (zeroValue 4).run Try.prog w = .ok (.bool false) w := by kernel_rfl
theorem zero9 (w : World) : (zeroValue 9).run Try.prog w = .ok (.string ⟨#[]⟩) w := by kernel_rfl
theorem plain3z : plainElem (H := Unit) Try.prog 3 (.int .i64 0) = some (.lit (.int .i64 0), []) := plain3 0 (by decide)
theorem plain4 (b : Bool) : plainElem (H := Unit) Try.prog 4 (.bool b) = some (.lit (.bool b), []) := plainElem_bool Try.underlying4 b
theorem plain9 (s : ByteArray) (h : okStr s) : plainElem (H := Unit) Try.prog 9 (.string s) = some (.lit (.string s.data.toList), []) := plainElem_string Try.underlying9 h

theorem grown_ext {w0 w w' : World} {row : Option Nat} (h : Ext w0 w) (hg : w.grownBy w' row) (hr : ∀ k, row = some k → w0.heap.size ≤ k) : Ext w0 w' :=
  Below.grown h hg h.size hr

/-! ### orgIndex -/
set_option maxHeartbeats 800000 in
theorem orgIndex_any (v : Value) (l : List Org) (w : World) (h : OrgsAt w v l) (hn : l.length ≤ 1048576) :
    Calls Try.prog 16 #[v] w fun e w' => ∃ b, e = .returned (.map (some b)) ∧ SM w' 3 b l.length (posF (l.map Org.id) l.length) ∧ Ext w w' := by
  obtain ⟨ao, cap, rfl, hcap⟩ := h.shape
  have hmm := run_makeMap_hint 58 9 3 Try.underlying58
  go_enter Try.func16, Try.ntmps16
  go_wp2_with fail
  go_loopw [4, 10] (fun i j wr => ∃ k : Nat, j = .int .i64 k ∧ k ≤ l.length ∧ SM wr 3 w.heap.size k (posF (l.map Org.id) k) ∧ Ext w wr) (fun _ i _ => l.length - (intOf i).toNat)
  case atStart => exact ⟨0, rfl, Nat.zero_le _, SM.made w 3, Ext.alloc _ _⟩
  case round =>
    obtain ⟨k, rfl, hk, hsm, he⟩ := hrel
    clear hmm
    by_cases hlt : k < l.length
    · obtain ⟨o, ho⟩ := get_at l k hlt
      obtain ⟨b, off, rfl, c0, c1, c2, ok⟩ := (h.ext he).at ho
      have HO : Hid ((l.map Org.id)[k]? = some o.id) := by show _ = _; rw [List.getElem?_map, ho]; rfl
      clear ho
      go_wp2_with (at_mapUpdate; refine wpList_put _ rfl _ _ _ rfl Try.underlying58 w.heap.size k _ rfl hsm (by unfold maxLen; omega) _ rfl ok.1 _ rfl (plain3 k (by omega)) ?_; intro w1 hsm1 hgrow1)
      go_roundw
      case rel => exact ⟨k + 1, by go_num, by omega, by rw [← posF_succ _ _ _ HO.out]; exact hsm1, grown_ext he hgrow1 (by simp)⟩
      case measure => simp [intOf]; omega
    · obtain rfl : k = l.length := by omega
      go_wp2
      go_ret
      exact ⟨_, rfl, hsm, he⟩
end Go.Proofs.Qxb6609292a
