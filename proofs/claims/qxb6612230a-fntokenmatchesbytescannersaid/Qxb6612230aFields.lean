/-
  strings.FieldsFunc at XML white space: the guide's own 'goFieldsP' (rune by rune) is 'fields' (byte by byte): a byte below 128 is a rune of its own, and a rune beyond takes bytes from 128 on alone.
-/
import Derived.Test.Qxb6612230aPlain
import Derived.Lib.FieldsP
namespace Go.Proofs.Qxb6612230a
open Go.Lib

theorem spN_high {n : Nat} (h : 128 ≤ n) : spN n = false := by
  unfold spN
  simp
  omega
theorem sp_high {c : UInt8} (h : 128 ≤ c.toNat) : sp c = false := spN_high h

theorem fold_nosp : ∀ (xs : List UInt8) (x : List (List UInt8) × Option (List UInt8)), (∀ c ∈ xs, sp c = false) → xs ≠ [] → xs.foldl fstep x = (x.1, some (x.2.getD [] ++ xs))
  | [], _, _, h => absurd rfl h
  | [c], x, h, _ => by simp [fstep, h c (by simp)]
  | c :: d :: r, x, h, _ => by
    rw [List.foldl_cons, fold_nosp (d :: r) _ (fun e he => h e (by simp at he ⊢; exact .inr he)) (by simp)]
    simp [fstep, h c (by simp)]

theorem decodeN_high (n b0 b1 b2 b3 : Nat) (h : 128 ≤ b0) :
    128 ≤ (decodeN n b0 b1 b2 b3).1 ∧ 1 ≤ (decodeN n b0 b1 b2 b3).2 ∧ (2 ≤ (decodeN n b0 b1 b2 b3).2 → 128 ≤ b1 ∧ 1 < n) ∧ (3 ≤ (decodeN n b0 b1 b2 b3).2 → 128 ≤ b2 ∧ 2 < n) ∧ (4 ≤ (decodeN n b0 b1 b2 b3).2 → 128 ≤ b3 ∧ 3 < n) ∧ (decodeN n b0 b1 b2 b3).2 ≤ 4 := by
  unfold decodeN
  repeat' split
  all_goals (simp only; omega)

theorem rune_bytes (s : ByteArray) (pos : Nat) (hp : pos < s.size) (hb : 128 ≤ (s.get! pos).toNat) :
    128 ≤ (Utf8.decode s pos).1 ∧ 1 ≤ (Utf8.decode s pos).2 ∧ pos + (Utf8.decode s pos).2 ≤ s.size ∧ ∀ j, j < (Utf8.decode s pos).2 → 128 ≤ (s.get! (pos + j)).toNat := by
  have h := decodeN_high (s.size - pos) (s.get! pos).toNat (s.get! (pos + 1)).toNat (s.get! (pos + 2)).toNat (s.get! (pos + 3)).toNat hb
  rw [← decode_at] at h
  obtain ⟨h1, h2, h3, h4, h5, h6⟩ := h
  refine ⟨h1, h2, by omega, fun j hj => ?_⟩
  match j, hj with
  | 0, _ => exact hb
  | 1, hj => exact (h3 (by omega)).1
  | 2, hj => exact (h4 (by omega)).1
  | 3, hj => exact (h5 (by omega)).1
  | j + 4, hj => exact absurd hj (by omega)

theorem get_eq (s : ByteArray) (i : Nat) (h : i < s.size) : s.data.toList[i]? = some (s.get! i) := by
  have h1 := getD_get!' s i
  have h2 : i < s.data.toList.length := by simpa using h
  rw [List.getElem?_eq_getElem h2]
  rw [← h1, List.getD_eq_getElem?_getD, List.getElem?_eq_getElem h2]
  rfl

theorem spans_fold (s : ByteArray) : ∀ (f pos : Nat) (st : Option Nat) (acc : List (Nat × Nat)), s.size ≤ pos + f → pos ≤ s.size → (∀ a, st = some a → a ≤ pos) →
    (closeSpans s (spansFromP spN s f pos st acc)).map (fun x => pieceU s.data.toList x.1 x.2) =
      fieldsOf ((s.data.toList.drop pos).foldl fstep (acc.map (fun x => pieceU s.data.toList x.1 x.2), st.map (fun a => pieceU s.data.toList a pos)))
  | f, pos, st, acc, h, hp, hst => by
    by_cases hlt : pos < s.size
    · match f, h with
      | 0, h => omega
      | f + 1, h =>
        have hg := get_eq s pos hlt
        have hd : s.data.toList.drop pos = s.get! pos :: s.data.toList.drop (pos + 1) := by
          obtain ⟨h2, h3⟩ := List.getElem?_eq_some_iff.1 hg
          rw [List.drop_eq_getElem_cons h2, h3]
        by_cases hb : (s.get! pos).toNat < 128
        · have hdec : Utf8.decode s pos = ((s.get! pos).toNat, 1) := by rw [decode_at, decodeN_ascii _ _ _ _ _ hb]
          cases hs : sp (s.get! pos) with
          | true =>
            have hs' : spN (s.get! pos).toNat = true := hs
            rw [hd, List.foldl_cons]
            have hfs : fstep (acc.map (fun x => pieceU s.data.toList x.1 x.2), st.map (fun a => pieceU s.data.toList a pos)) (s.get! pos) = ((acc.map (fun x => pieceU s.data.toList x.1 x.2)) ++ (st.map (fun a => pieceU s.data.toList a pos)).toList, none) := by
              simp [fstep, hs]
            rw [hfs]
            cases st with
            | none =>
              have e : spansFromP spN s (f + 1) pos none acc = spansFromP spN s f (pos + 1) none acc := by
                simp [spansFromP, hlt, hdec, hs']
              rw [e, spans_fold s f (pos + 1) none acc (by omega) (by omega) (by simp)]
              simp
            | some a =>
              have e : spansFromP spN s (f + 1) pos (some a) acc = spansFromP spN s f (pos + 1) none (acc ++ [(a, pos)]) := by
                simp [spansFromP, hlt, hdec, hs']
              rw [e, spans_fold s f (pos + 1) none _ (by omega) (by omega) (by simp)]
              simp
          | false =>
            have hs' : spN (s.get! pos).toNat = false := hs
            have e : spansFromP spN s (f + 1) pos st acc = spansFromP spN s f (pos + 1) (some (st.getD pos)) acc := by
              cases st <;> simp [spansFromP, hlt, hdec, hs']
            have hst' : st.getD pos ≤ pos := by cases st with | none => exact Nat.le_refl _ | some a => exact hst a rfl
            rw [e, spans_fold s f (pos + 1) _ acc (by omega) (by omega) (fun a ha => by simp at ha; omega)]
            rw [hd, List.foldl_cons]
            have hgrow := pieceU_grow s.data.toList (st.getD pos) pos 1 hst'
            rw [hd] at hgrow
            simp only [List.take_succ_cons, List.take_zero] at hgrow
            have hfs : fstep (acc.map (fun x => pieceU s.data.toList x.1 x.2), st.map (fun a => pieceU s.data.toList a pos)) (s.get! pos) = (acc.map (fun x => pieceU s.data.toList x.1 x.2), some (pieceU s.data.toList (st.getD pos) (pos + 1))) := by
              rw [← hgrow]
              cases st with
              | none => simp [fstep, hs, pieceU]
              | some a => simp [fstep, hs]
            rw [hfs]
            rfl
        · obtain ⟨r1, r2, r3, r4⟩ := rune_bytes s pos hlt (by omega)
          have hs' := spN_high r1
          generalize hk : (Utf8.decode s pos).2 = k at *
          have e : spansFromP spN s (f + 1) pos st acc = spansFromP spN s f (pos + k) (some (st.getD pos)) acc := by
            cases st <;> simp [spansFromP, hlt, hs', hk]
          have hst' : st.getD pos ≤ pos := by cases st with | none => exact Nat.le_refl _ | some a => exact hst a rfl
          rw [e, spans_fold s f (pos + k) _ acc (by omega) r3 (fun a ha => by simp at ha; omega)]
          have hsplit : s.data.toList.drop pos = (s.data.toList.drop pos).take k ++ s.data.toList.drop (pos + k) := by
            rw [← List.drop_drop, List.take_append_drop]
          rw [hsplit, List.foldl_append]
          have hns : ∀ c ∈ (s.data.toList.drop pos).take k, sp c = false := by
            intro c hc
            obtain ⟨j, hj, hjc⟩ := List.mem_iff_getElem.1 hc
            rw [List.getElem_take, List.getElem_drop] at hjc
            have hjk : j < k := by simp at hj; omega
            have hg' := get_eq s (pos + j) (by omega)
            obtain ⟨_, hg''⟩ := List.getElem?_eq_some_iff.1 hg'
            rw [hg''] at hjc
            rw [← hjc]
            exact sp_high (r4 j hjk)
          have hne : (s.data.toList.drop pos).take k ≠ [] := by
            rw [hd]
            obtain ⟨k', rfl⟩ : ∃ k', k = k' + 1 := ⟨k - 1, by omega⟩
            simp
          rw [fold_nosp _ _ hns hne]
          have hgrow := pieceU_grow s.data.toList (st.getD pos) pos k hst'
          have hfin : some (((acc.map (fun x => pieceU s.data.toList x.1 x.2), st.map (fun a => pieceU s.data.toList a pos)) : List (List UInt8) × Option (List UInt8)).2.getD [] ++ (s.data.toList.drop pos).take k) = (some (st.getD pos)).map (fun a => pieceU s.data.toList a (pos + k)) := by
            rw [Option.map_some, ← hgrow]
            cases st with
            | none => simp [pieceU]
            | some a => simp
          rw [hfin]
    · have hpe : pos = s.size := by omega
      rw [spansFromP_end _ _ _ _ _ _ hlt]
      have hd : s.data.toList.drop pos = [] := List.drop_eq_nil_of_le (by simp; omega)
      rw [hd]
      cases st with
      | none => simp [closeSpans, fieldsOf]
      | some a => simp [closeSpans, fieldsOf, hpe]

theorem piece_extract (s : ByteArray) (a b : Nat) : (s.extract a b).data.toList = pieceU s.data.toList a b := by
  unfold pieceU
  simp [ByteArray.data_extract]

/-- strings.FieldsFunc(s, isXMLSpace), as lists of bytes. -/
theorem goFields_eq (s : ByteArray) : (goFieldsP spN s).map (·.data.toList) = fields s.data.toList := by
  unfold goFieldsP spansOfP fields
  rw [List.map_map]
  have h := spans_fold s s.size 0 none [] (by omega) (by omega) (by simp)
  simp only [List.drop_zero, List.map_nil, Option.map_none] at h
  rw [← h]
  apply List.map_congr_left
  intro x _
  exact piece_extract s x.1 x.2

theorem token_eq (s : ByteArray) : List.intercalate [32] ((goFieldsP spN s).map (·.data.toList)) = tm s.data.toList := by
  rw [goFields_eq, join_fields]
end Go.Proofs.Qxb6612230a
