/-
  THE PLAIN LAWS under Format (seat b6612180aD): digit strings; no Go in sight.
-/
set_option linter.unusedVariables false
namespace Go.Proofs.Qxb6612180aDoor

def dgt (n : Nat) : UInt8 := UInt8.ofNat (48 + n % 10)
/-- The L last decimal digits of n, the first ahead. -/
def rep : Nat → Nat → List UInt8
  | 0, _ => []
  | L + 1, n => rep L (n / 10) ++ [dgt n]

theorem dgt_toNat (n : Nat) : (dgt n).toNat = 48 + n % 10 := by
  unfold dgt
  rw [UInt8.toNat_ofNat']
  omega
theorem dgt_zero : dgt 0 = 48 := rfl

theorem rep_length : ∀ (L n : Nat), (rep L n).length = L
  | 0, _ => rfl
  | L + 1, n => by simp [rep, rep_length L]

theorem rep_cons0 : ∀ (L n : Nat), n < 10 ^ L → 48 :: rep L n = rep (L + 1) n
  | 0, n, h => by
    obtain rfl : n = 0 := by simpa using h
    rfl
  | L + 1, n, h => by
    have h' : n / 10 < 10 ^ L := by rw [Nat.pow_succ] at h; omega
    have ih := rep_cons0 L (n / 10) h'
    show 48 :: (rep L (n / 10) ++ [dgt n]) = rep (L + 1) (n / 10) ++ [dgt n]
    rw [← ih]; rfl

theorem rep_take (L : Nat) : ∀ (k n : Nat), (rep (L + k) n).take L = rep L (n / 10 ^ k)
  | 0, n => by simp [List.take_of_length_le (Nat.le_of_eq (rep_length L n))]
  | k + 1, n => by
    show (rep (L + k) (n / 10) ++ [dgt n]).take L = _
    rw [List.take_append_of_le_length (by rw [rep_length]; omega), rep_take L k, Nat.div_div_eq_div_mul, Nat.pow_succ, Nat.mul_comm]

theorem rep_get (L : Nat) : ∀ (k n : Nat), (rep (L + 1 + k) n)[L]? = some (dgt (n / 10 ^ k))
  | 0, n => by
    show (rep L (n / 10) ++ [dgt n])[L]? = _
    rw [List.getElem?_append_right (by rw [rep_length]; omega), rep_length]
    simp
  | k + 1, n => by
    show (rep (L + 1 + k) (n / 10) ++ [dgt n])[L]? = _
    rw [List.getElem?_append_left (by rw [rep_length]; omega), rep_get L k, Nat.div_div_eq_div_mul, Nat.pow_succ, Nat.mul_comm]

theorem rep_zeros (L n : Nat) : ∀ j, rep L n ++ List.replicate j 48 = rep (L + j) (n * 10 ^ j)
  | 0 => by simp
  | j + 1 => by
    show _ = rep (L + j) (n * 10 ^ (j + 1) / 10) ++ [dgt (n * 10 ^ (j + 1))]
    have e1 : n * 10 ^ (j + 1) / 10 = n * 10 ^ j := by
      rw [Nat.pow_succ, ← Nat.mul_assoc, Nat.mul_div_cancel _ (by decide)]
    have e2 : dgt (n * 10 ^ (j + 1)) = 48 := by
      unfold dgt
      rw [Nat.pow_succ, ← Nat.mul_assoc, Nat.mul_mod_left]
      rfl
    rw [e1, e2, ← rep_zeros L n j, List.append_assoc, List.replicate_succ']

theorem pow_pos' (k : Nat) : 0 < 10 ^ k := Nat.pow_pos (by decide)

/-! ### adding one -/
theorem inc_num (n j : Nat) (h : n % 10 ^ j = 10 ^ j - 1) : n + 1 = (n / 10 ^ j + 1) * 10 ^ j := by
  have hp := pow_pos' j
  have := Nat.div_add_mod n (10 ^ j)
  rw [h] at this
  rw [Nat.add_mul, Nat.mul_comm (n / 10 ^ j)]
  omega

theorem dgt_succ (m : Nat) (h : m % 10 ≠ 9) : dgt (m + 1) = dgt m + 1 := by
  apply UInt8.toNat_inj.1
  rw [UInt8.toNat_add, dgt_toNat, dgt_toNat]
  show _ = (48 + m % 10 + 1) % 256
  omega

theorem inc_fin (L n j : Nat) (hj : j < L) (h : n % 10 ^ j = 10 ^ j - 1) (h9 : (n / 10 ^ j) % 10 ≠ 9) :
    (rep L n).take (L - j - 1) ++ (dgt (n / 10 ^ j) + 1) :: List.replicate j 48 = rep L (n + 1) := by
  obtain ⟨a, rfl⟩ : ∃ a, L = a + 1 + j := ⟨L - 1 - j, by omega⟩
  have e0 : a + 1 + j - j - 1 = a := by omega
  rw [e0, inc_num n j h, ← rep_zeros]
  have e1 : (rep (a + 1 + j) n).take a = rep a (n / 10 ^ (1 + j)) := by
    rw [Nat.add_assoc]; exact rep_take a (1 + j) n
  have e2 : rep (a + 1) (n / 10 ^ j + 1) = rep a (n / 10 ^ (1 + j)) ++ [dgt (n / 10 ^ j) + 1] := by
    show rep a ((n / 10 ^ j + 1) / 10) ++ [dgt (n / 10 ^ j + 1)] = _
    rw [dgt_succ _ h9]
    have : (n / 10 ^ j + 1) / 10 = n / 10 ^ (1 + j) := by
      rw [Nat.add_comm 1 j, Nat.pow_succ, ← Nat.div_div_eq_div_mul]
      omega
    rw [this]
  rw [e1, e2]
  simp

theorem inc_more (L n j : Nat) (hj : j < L) (h : n % 10 ^ j = 10 ^ j - 1) (h9 : (n / 10 ^ j) % 10 = 9) : n % 10 ^ (j + 1) = 10 ^ (j + 1) - 1 := by
  have hp := pow_pos' j
  have e : n % 10 ^ (j + 1) = n % 10 ^ j + 10 ^ j * ((n / 10 ^ j) % 10) := by rw [Nat.pow_succ, Nat.mod_mul]
  rw [e, h, h9, Nat.pow_succ]
  omega

theorem inc_all (L n : Nat) (hn : n < 10 ^ L) (h : n % 10 ^ L = 10 ^ L - 1) : 49 :: List.replicate L 48 = rep (L + 1) (n + 1) := by
  have hp := pow_pos' L
  rw [Nat.mod_eq_of_lt hn] at h
  have e : n + 1 = 1 * 10 ^ L := by omega
  rw [e, Nat.add_comm L 1, ← rep_zeros]
  rfl

/-! ### the one length -/
/-- L is the length at which Q is written with p places: at least one digit ahead of the point, no needless zero. -/
structure Fit (p Q L : Nat) : Prop where
  lo : p + 1 ≤ L
  lt : Q < 10 ^ L
  tight : L = p + 1 ∨ 10 ^ (L - 1) ≤ Q

theorem fit_unique {p Q L L' : Nat} (h : Fit p Q L) (h' : Fit p Q L') : L = L' := by
  have key : ∀ {A B : Nat}, Fit p Q A → Fit p Q B → ¬ A < B := by
    intro A B a b hlt
    rcases b.tight with e | e
    · have := a.lo; omega
    · have h1 : 10 ^ A ≤ 10 ^ (B - 1) := Nat.pow_le_pow_right (by decide) (by omega)
      have := a.lt
      omega
  have h1 := key h h'
  have h2 := key h' h
  omega

theorem fit_zeros {s c L : Nat} (h : Fit s c L) (j : Nat) : Fit (s + j) (c * 10 ^ j) (L + j) := by
  have hp := pow_pos' j
  refine ⟨by have := h.lo; omega, ?_, ?_⟩
  · rw [Nat.pow_add]; exact Nat.mul_lt_mul_of_pos_right h.lt hp
  · rcases h.tight with e | e
    · left; omega
    · right
      have hl := h.lo
      rw [show L + j - 1 = (L - 1) + j by omega, Nat.pow_add]
      exact Nat.mul_le_mul_right _ e

/-- Half up at k dropped digits. -/
def rnd (m k : Nat) : Nat := m / 10 ^ k + (if 10 ^ k ≤ 2 * (m % 10 ^ k) then 1 else 0)

theorem fit_cut {p k m L : Nat} (h : Fit (p + k) m L) : Fit p (m / 10 ^ k) (L - k) := by
  have hl := h.lo
  refine ⟨by omega, ?_, ?_⟩
  · rw [Nat.div_lt_iff_lt_mul (pow_pos' k), ← Nat.pow_add, show L - k + k = L by omega]
    exact h.lt
  · rcases h.tight with e | e
    · left; omega
    · by_cases hL : L = p + k + 1
      · left; omega
      · right
        rw [Nat.le_div_iff_mul_le (pow_pos' k), ← Nat.pow_add, show L - k - 1 + k = L - 1 by omega]
        exact e

theorem fit_inc {p q L : Nat} (h : Fit p q L) (hlt : q + 1 < 10 ^ L) : Fit p (q + 1) L :=
  ⟨h.lo, hlt, h.tight.elim .inl (fun e => .inr (by omega))⟩
theorem fit_carry {p q L : Nat} (h : Fit p q L) (he : q + 1 = 10 ^ L) : Fit p (q + 1) (L + 1) := by
  refine ⟨by have := h.lo; omega, ?_, .inr ?_⟩
  · rw [he]; exact Nat.pow_lt_pow_right (by decide) (by omega)
  · rw [he]; exact Nat.le_of_eq (by rw [Nat.add_sub_cancel])

/-- The first dropped digit is 5 or more just where twice the rest reaches the unit. -/
theorem half_iff (m k : Nat) : (5 ≤ (m / 10 ^ k) % 10) ↔ 10 ^ (k + 1) ≤ 2 * (m % 10 ^ (k + 1)) := by
  have hp := pow_pos' k
  have e : m % 10 ^ (k + 1) = m % 10 ^ k + 10 ^ k * ((m / 10 ^ k) % 10) := by rw [Nat.pow_succ, Nat.mod_mul]
  have hr : m % 10 ^ k < 10 ^ k := Nat.mod_lt _ hp
  rw [e, Nat.pow_succ]
  generalize 10 ^ k = u at *
  generalize m % u = r at *
  generalize (m / u) % 10 = d at *
  constructor
  · intro h
    have : u * 5 ≤ u * d := Nat.mul_le_mul_left _ h
    omega
  · intro h
    false_or_by_contra
    rename_i hd
    have : u * d ≤ u * 4 := Nat.mul_le_mul_left _ (by omega)
    omega

/-- What is written: the magnitude at p places. -/
def Qf (m s p : Nat) : Nat := if p < s then rnd m (s - p) else m * 10 ^ (p - s)

def outStr (neg : Bool) (p L Q : Nat) : List UInt8 :=
  (if (neg && Q != 0) = true then [45] else []) ++ (rep L Q).take (L - p) ++ (if 0 < p then 46 :: (rep L Q).drop (L - p) else [])

/-! ### all zeros -/
theorem rep_allzero : ∀ (L Q : Nat), Q < 10 ^ L → ((rep L Q).all (· == 48) = true ↔ Q = 0)
  | 0, Q, h => by
    obtain rfl : Q = 0 := by simpa using h
    simp [rep]
  | L + 1, Q, h => by
    have h' : Q / 10 < 10 ^ L := by rw [Nat.pow_succ] at h; omega
    have ih := rep_allzero L (Q / 10) h'
    have e : (dgt Q == 48) = true ↔ Q % 10 = 0 := by
      rw [beq_iff_eq, ← UInt8.toNat_inj, dgt_toNat]
      show 48 + Q % 10 = 48 ↔ _
      omega
    simp only [rep, List.all_append, List.all_cons, List.all_nil, Bool.and_true, Bool.and_eq_true]
    rw [ih, e]
    omega

/-! ### the text's end: the point and the zeros -/
theorem text_eq (neg : Bool) (s2 c L2 p : Nat) (h : Fit s2 c L2) (hs : s2 ≤ p) :
    (if (neg && c != 0) = true then [45] else []) ++ (rep L2 c).take (L2 - s2) ++ (if 0 < p then 46 :: ((rep L2 c).drop (L2 - s2) ++ List.replicate (p - s2) 48) else []) = outStr neg p (L2 + (p - s2)) (c * 10 ^ (p - s2)) := by
  have hl := h.lo
  unfold outStr
  have e0 : (c * 10 ^ (p - s2) != 0) = (c != 0) := by
    have hp := pow_pos' (p - s2)
    rw [Bool.eq_iff_iff, bne_iff_ne, bne_iff_ne]
    constructor
    · intro h0 hc; exact h0 (by rw [hc, Nat.zero_mul])
    · intro h0 hc
      rcases Nat.mul_eq_zero.1 hc with h1 | h1
      · exact h0 h1
      · omega
  rw [e0, ← rep_zeros]
  have e1 : L2 + (p - s2) - p = L2 - s2 := by omega
  rw [e1, List.take_append_of_le_length (by rw [rep_length]; omega), List.drop_append_of_le_length (by rw [rep_length]; omega)]

end Go.Proofs.Qxb6612180aDoor
