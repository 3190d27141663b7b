/-
  WALKS for seat b6612180aD: strconv.AppendUint at base 10 onto a row of whatever label (there is room), after the guide's text for an owned row.
-/
import Derived.Test.Qxb6612180aDoorWalkG
import Derived.Deep.AppendSrc
import Derived.Shelf.Strconv.AppendUint10
set_option linter.unusedVariables false
set_option linter.unusedSimpArgs false
namespace Go.Proofs.Qxb6612180aDoor
open Go.RowKit Go.Lib Go.Sort

theorem run_append_fits_src {P : Program} (w : World) (base : Nat) (t tx ty e lab : TypeId) (i : TypeInfo) (ht : P.underlying t = some (.slice e)) (hi : P.info? e = some i) (hsize : i.size = 1)
    (g n cap : Nat) (xs : List Value) (hown : w.ownsRow base lab 1 (.slice (some ⟨g, 0, none⟩) n cap) n xs)
    (x : Value) (m : Nat) (news : List Value) (hs : Src P 1 tx x m news w) (hroom : n + m ≤ cap) :
    ∃ w', (Builtin.append_ #[t, tx] ty #[.slice (some ⟨g, 0, none⟩) n cap, x]).run P w = .ok (.slice (some ⟨g, 0, none⟩) (n + m) cap) w' ∧
      w'.ownsRow base lab 1 (.slice (some ⟨g, 0, none⟩) (n + m) cap) (n + m) (xs ++ news) ∧ w.grownBy w' (some g) := by
  have hl := hs.newsLen
  obtain ⟨cur, hbg, hg, hnc, hcm, hcs, htake, hx⟩ := row_parts hown
  have hlen : (xs ++ news).length = (n + m) * 1 := by rw [List.length_append, hx, hl]; omega
  have hfit : n + news.length ≤ cur.size := by omega
  have hst := run_storeCells_at P g n lab news 0 cur w hg (by simpa using hfit) hs.one
  simp only [Nat.add_zero] at hst
  have hr : (Builtin.append_ #[t, tx] ty #[.slice (some ⟨g, 0, none⟩) n cap, x]).run P w = .ok (.slice (some ⟨g, 0, none⟩) (n + m) cap) (w.setRow g (cur.toList.take n ++ news ++ cur.toList.drop (n + news.length)).toArray) := by
    rcases hs.kind with ⟨e', hk⟩ | hk <;> simp [Builtin.append_, run_underlying ht, run_underlying hk, sizeOf, typeInfo, hi, hsize, hs.len, hroom, hs.cells, Addr.add_lit, hst]
  refine ⟨_, hr, ⟨hlen, .inr ⟨g, cap, _, rfl, hbg, setRow_heap w g cur _ lab _ hg, hroom, hcm, ?_, ?_⟩⟩, ⟨rfl, rfl, rfl, by simp, fun k _ hk => setRow_other w g k _ (fun e => hk (by simp [e]))⟩⟩
  · simp only [List.size_toArray, List.length_append, List.length_take, List.length_drop, Array.length_toList]
    omega
  · rw [htake, ← hlen]
    exact List.take_left

theorem wpList_append_fits_src {P : Program} (w : World) {ops : Array Oper} {rest : List Oper} {o : Oper} {a : Act} {Q : Exit → Act → World → Prop}
    (hg : o.guard = none) (s x : Operand) (t tx : TypeId) (hop : o.op = Op.call { callee := Callee.builtin Builtin.append, args := #[s, x], argTypes := #[t, tx] })
    (base : Nat) (e lab : TypeId) (i : TypeInfo) (h1 : P.underlying t = some (.slice e)) (h2 : P.info? e = some i) (h4 : i.size = 1)
    (g n cap : Nat) (xs : List Value) (hs : a.eval s = .slice (some ⟨g, 0, none⟩) n cap) (hown : w.ownsRow base lab 1 (.slice (some ⟨g, 0, none⟩) n cap) n xs)
    (xv : Value) (m : Nat) (news : List Value) (hx : a.eval x = xv) (hsrc : Src P 1 tx xv m news w) (hroom : n + m ≤ cap)
    (hK : ∀ w', w'.ownsRow base lab 1 (.slice (some ⟨g, 0, none⟩) (n + m) cap) (n + m) (xs ++ news) → w.grownBy w' (some g) → wpList P ops Q rest (a.put o.dst (.slice (some ⟨g, 0, none⟩) (n + m) cap)) w') :
    wpList P ops Q (o :: rest) a w := by
  refine wpList_plain hg fun K hK' => ?_
  obtain ⟨w', hrun, r1, r2⟩ := run_append_fits_src (P := P) w base t tx o.type e lab i h1 h2 h4 g n cap xs hown xv m news hsrc hroom
  unfold Oper.wp
  simp [execOp, hop, resolve, invoke, builtin, hs, hx, hrun, Result.andThen]
  exact hK' _ _ (hK w' r1 r2)

theorem byteCells_eq (l : List UInt8) : Go.byteCells ⟨l.toArray⟩ = l.map Bt := rfl

set_option maxHeartbeats 6400000 in
set_option maxRecDepth 100000 in
theorem au_small (B lab g n cap u : Nat) (hu : u < 100) (xs : List Value) (w : World) (hown : w.ownsRow B lab 1 (.slice (some ⟨g, 0, none⟩) n cap) n xs) (hroom : n + 20 ≤ cap) :
    Calls Tryd.prog 23 #[.slice (some ⟨g, 0, none⟩) n cap, .int .u64 u, .int .i64 10] w fun e w' => e = .returned (.slice (some ⟨g, 0, none⟩) (n + Lib.nDigits u) cap) ∧
      w'.ownsRow B lab 1 (.slice (some ⟨g, 0, none⟩) (n + Lib.nDigits u) cap) (n + Lib.nDigits u) (xs ++ (Lib.decDigits u).map Bt) ∧ w.grownBy w' (some g) := by
  obtain ⟨i0, hi, hz0, hz1, hz2⟩ := info_parts Tryd.info5
  have hlen : Lib.nDigits u ≤ 20 := by
    by_cases h10 : u < 10
    · rw [Lib.nDigits_small h10]; omega
    · rw [Lib.nDigits_big h10, Lib.nDigits_small (show u / 10 < 10 by omega)]; omega
  have hsz : (⟨(Lib.decDigits u).toArray⟩ : ByteArray).size = Lib.nDigits u := by rw [← Lib.decDigits_length]; simp [ByteArray.size]
  have hsrc : ∀ W, Src Tryd.prog 1 9 (.string ⟨(Lib.decDigits u).toArray⟩) (Lib.nDigits u) ((Lib.decDigits u).map Bt) W := fun W => by
    rw [← hsz, ← byteCells_eq]; exact Src.ofString W Tryd.underlying9 _
  have iu : (u : Int) < 100 := by omega
  clear hsz
  go_enter Tryd.func23, Tryd.ntmps23
  go_wp2_with (first
    | (go_at_call 26; refine (Tryd.internal_strconv_small u hu _).mono ?_; rintro e w' ⟨rfl, rfl⟩)
    | (at_builtin; refine wpList_append_fits_src _ rfl _ _ 35 9 rfl B 5 lab i0 Tryd.underlying35 hi hz1 g n cap xs rfl (by assumption) _ (Lib.nDigits u) ((Lib.decDigits u).map Bt) rfl (hsrc _) (by omega) ?_; intro w1 hown1 hgrow1))
  go_ret
  exact ⟨rfl, hown1, hgrow1⟩

set_option maxHeartbeats 12800000 in
set_option maxRecDepth 100000 in
theorem au_big (B lab g n cap u : Nat) (hu : 100 ≤ u) (hu64 : u < 18446744073709551616) (xs : List Value) (w : World) (hown : w.ownsRow B lab 1 (.slice (some ⟨g, 0, none⟩) n cap) n xs) (hroom : n + 20 ≤ cap)
    (htab : Lib.TabIs Tryd.prog w "internal/strconv.uint64pow10" .u64 Lib.pow10Tab) :
    Calls Tryd.prog 23 #[.slice (some ⟨g, 0, none⟩) n cap, .int .u64 u, .int .i64 10] w fun e w' => e = .returned (.slice (some ⟨g, 0, none⟩) (n + Lib.nDigits u) cap) ∧
      w'.ownsRow B lab 1 (.slice (some ⟨g, 0, none⟩) (n + Lib.nDigits u) cap) (n + Lib.nDigits u) (xs ++ (Lib.decDigits u).map Bt) ∧ w.grownBy w' (some g) := by
  obtain ⟨i0, hi, hz0, hz1, hz2⟩ := info_parts Tryd.info5
  have hu1 : 1 ≤ u := by omega
  have hnd20 : Lib.nDigits u ≤ 20 := by have := Lib.numDigits_eq u hu1 hu64; split at this <;> omega
  have hal : Tryd.prog.arrayLen 47 = 24 := by simp [Program.arrayLen, Tryd.underlying47]
  have hsl : ∀ W, (Instr.sliceAt 47 (.pointer (some ⟨w.heap.size, 0, none⟩)) none (some (.int .i64 (Lib.nDigits u : Int))) none).run Tryd.prog W = .ok (.slice (some ⟨w.heap.size, 0, none⟩) (Lib.nDigits u) 24) W := fun W => by
    rw [run_sliceAt_array_h W 47 ⟨w.heap.size, 0, none⟩ (by simp [Program.arrayLen, Program.elem, Tryd.underlying47]) .i64 (Lib.nDigits u : Int) (by omega) (by rw [hal]; omega)]
    go_simp
  have hH0 := Lib.holds_zero0 w 47 (Lib.nDigits u) (by omega)
  have hfmt := Tryd.internal_strconv_formatBase10 w.heap.size 0 24 u (Array.replicate (Lib.nDigits u) 0) (w.alloc (.cells Lib.zeros24 47)) hH0 (by rw [Array.size_replicate]; exact Lib.lt_pow_nDigits u) hu64 (by rw [Array.size_replicate]; omega)
  rw [Array.size_replicate] at hfmt
  have HH0 := Lib.hid hH0
  have iu : (100 : Int) ≤ (u : Int) := by omega
  clear hH0 hal
  go_enter Tryd.func23, Tryd.ntmps23
  go_wp2_with (first
    | (go_at_call 27; refine (Tryd.internal_strconv_numDigits u hu1 hu64 _ (Lib.tabIs_alloc htab _)).mono ?_; rintro e w' ⟨rfl, rfl⟩))
  refine hfmt.mono ?_
  rintro e w' ⟨rfl, k, v', dk, rfl, hF⟩
  have hcells : ∀ j u', ((Lib.decDigits u).map Bt)[j]? = some u' → ((putRow (fun (b : UInt8) => Value.int .u8 (b.toNat : Int)) (w.alloc (.cells Lib.zeros24 47)) w.heap.size 0 dk).drewN k).cell? ((⟨w.heap.size, 0, none⟩ : Addr).add j) = some u' := by
    intro j u' hj
    have hjl : j < (Lib.decDigits u).length := by
      have h5 := (List.getElem?_eq_some_iff.1 hj).1
      rwa [List.length_map] at h5
    have e5 : ((Lib.decDigits u).map Bt)[j]? = some (Value.int .u8 ((Lib.decDigits u)[j].toNat : Int)) := by simp [Bt, hjl]
    rw [e5] at hj
    cases hj
    rw [Lib.row_is_numeral hF j hjl, Lib.add_plain, World.cell?_drewN]
    exact cell?_putRow (fun (b : UInt8) => Value.int .u8 (b.toNat : Int)) _ w.heap.size 0 _ dk HH0.out (by rw [hF.size, Array.size_replicate]) j (by rw [hF.size]; rw [Lib.decDigits_length] at hjl; exact hjl)
  obtain ⟨os, eo⟩ := Lib.fin_at w (.cells Lib.zeros24 47) dk k 0
  have hown2 : ((putRow (fun (b : UInt8) => Value.int .u8 (b.toNat : Int)) (w.alloc (.cells Lib.zeros24 47)) w.heap.size 0 dk).drewN k).ownsRow B lab 1 (.slice (some ⟨g, 0, none⟩) n cap) n xs := by rw [eo]; exact Lib.ownsRow_grow hown k os
  have hg2 : w.grownBy ((putRow (fun (b : UInt8) => Value.int .u8 (b.toNat : Int)) (w.alloc (.cells Lib.zeros24 47)) w.heap.size 0 dk).drewN k) (some g) := by
    rw [eo]
    have hb := Lib.below_grow w.heap.size w (Nat.le_refl _) k os
    exact ⟨hb.os, hb.tape, hb.output, hb.size, fun k hk _ => hb.block k hk⟩
  generalize (putRow (fun (b : UInt8) => Value.int .u8 (b.toNat : Int)) (w.alloc (.cells Lib.zeros24 47)) w.heap.size 0 dk).drewN k = W2 at hcells hown2 hg2 ⊢
  clear eo HH0 hfmt
  go_wp2_with (at_builtin; refine wpList_append_fits_lab _ rfl _ _ 35 rfl B 5 lab i0 Tryd.underlying35 hi hz1 g n cap xs rfl hown2 ⟨w.heap.size, 0, none⟩ (Lib.nDigits u) 24 ((Lib.decDigits u).map Bt) rfl (by rw [List.length_map, Lib.decDigits_length]) hcells (bt_one _) (by omega) ?_; intro w3 hown3 hgrow3)
  go_ret
  exact ⟨rfl, hown3, ⟨hgrow3.os.trans hg2.os, hgrow3.tape.trans hg2.tape, hgrow3.output.trans hg2.output, Nat.le_trans hg2.size hgrow3.size, fun k hk hne => (hgrow3.block k (Nat.lt_of_lt_of_le hk hg2.size) hne).trans (hg2.block k hk hne)⟩⟩

theorem au_any (B lab g n cap u : Nat) (hu64 : u < 18446744073709551616) (xs : List Value) (w : World) (hown : w.ownsRow B lab 1 (.slice (some ⟨g, 0, none⟩) n cap) n xs) (hroom : n + 20 ≤ cap)
    (htab : Lib.TabIs Tryd.prog w "internal/strconv.uint64pow10" .u64 Lib.pow10Tab) :
    Calls Tryd.prog 20 #[.slice (some ⟨g, 0, none⟩) n cap, .int .u64 u, .int .i64 10] w fun e w' => e = .returned (.slice (some ⟨g, 0, none⟩) (n + Lib.nDigits u) cap) ∧
      w'.ownsRow B lab 1 (.slice (some ⟨g, 0, none⟩) (n + Lib.nDigits u) cap) (n + Lib.nDigits u) (xs ++ (Lib.decDigits u).map Bt) ∧ w.grownBy w' (some g) := by
  have h23 : Calls Tryd.prog 23 #[.slice (some ⟨g, 0, none⟩) n cap, .int .u64 u, .int .i64 10] w fun e w' => e = .returned (.slice (some ⟨g, 0, none⟩) (n + Lib.nDigits u) cap) ∧
      w'.ownsRow B lab 1 (.slice (some ⟨g, 0, none⟩) (n + Lib.nDigits u) cap) (n + Lib.nDigits u) (xs ++ (Lib.decDigits u).map Bt) ∧ w.grownBy w' (some g) := by
    by_cases h : u < 100
    · exact au_small B lab g n cap u h xs w hown hroom
    · exact au_big B lab g n cap u (by omega) hu64 xs w hown hroom htab
  go_enter Tryd.func20, Tryd.ntmps20
  go_wp2_with (go_at_call 23; refine h23.mono ?_; rintro e w' ⟨rfl, h1, h2⟩)
  go_ret
  exact ⟨rfl, h1, h2⟩

/-- The numeral, as the plain text has it. -/
theorem decDigits_rep : ∀ (u : Nat), Lib.decDigits u = rep (Lib.nDigits u) u ∧ Fit 0 u (Lib.nDigits u) := by
  intro u
  induction u using Nat.strongRecOn with
  | _ u ih =>
    by_cases h : u < 10
    · rw [Lib.nDigits_small h, Lib.decDigits_one h]
      refine ⟨?_, ⟨by decide, by simpa using h, .inl rfl⟩⟩
      simp [rep, dgt, Nat.mod_eq_of_lt h]
    · obtain ⟨e1, e2⟩ := ih (u / 10) (by omega)
      rw [Lib.nDigits_big h, Lib.decDigits, dif_neg h, e1]
      refine ⟨rfl, ⟨by omega, ?_, .inr ?_⟩⟩
      · have := e2.lt
        rw [Nat.pow_succ]; omega
      · rw [Nat.add_sub_cancel]
        have hlo := e2.lo
        rcases e2.tight with e | e
        · rw [e]; omega
        · have : Lib.nDigits (u / 10) = (Lib.nDigits (u / 10) - 1) + 1 := by omega
          rw [this, Nat.pow_succ]
          omega
end Go.Proofs.Qxb6612180aDoor
