/-
  THE PLAIN LAW ON DECIMAL NUMERALS: what a numeral's bytes spell, its length, its order; and on the fields of the 64-bit form. No Go in it.
-/
import Derived.Test.Qxb6613619aFmtOrd
import Derived.Lib.ItoaNum
namespace Go.Proofs.Qxb6613619aFmt.Cal
open Go.Lib (decDigits nDigits nDigits_small nDigits_big nDigits_pos lt_pow_nDigits decDigits_length)

/-- Byte k of the numeral of u. -/
def dx (u k : Nat) : Int := (((decDigits u).getD k 0).toNat : Int)

theorem decN_same (x y : Nat → Int) : ∀ (n i : Nat) (a : Int), (∀ k, i ≤ k → k < i + n → x k = y k) → decN x i n a = decN y i n a
  | 0, i, a, h => by simp [decN]
  | n + 1, i, a, h => by
    rw [decN, decN, h i (Nat.le_refl _) (by omega)]
    by_cases g : 48 ≤ y i ∧ y i ≤ 57
    · rw [if_pos g, if_pos g]; exact decN_same x y n (i + 1) _ (fun k h1 h2 => h k (by omega) (by omega))
    · rw [if_neg g, if_neg g]
theorem decN_snoc (x : Nat → Int) : ∀ (n i : Nat) (a v : Int), decN x i n a = some v → 48 ≤ x (i + n) → x (i + n) ≤ 57 → decN x i (n + 1) a = some (v * 10 + (x (i + n) - 48))
  | 0, i, a, v, h, h1, h2 => by
    simp [decN] at h; subst h
    rw [decN, if_pos ⟨by simpa using h1, by simpa using h2⟩, decN]; simp
  | n + 1, i, a, v, h, h1, h2 => by
    unfold decN at h
    split at h
    · rename_i g
      have e : i + (n + 1) = i + 1 + n := by omega
      rw [e] at h1 h2 ⊢
      rw [decN, if_pos g]
      exact decN_snoc x n (i + 1) _ v h h1 h2
    · cases h

theorem u8_digit (d : Nat) (h : d < 10) : (UInt8.ofNat (48 + d)).toNat = 48 + d := by
  rw [UInt8.toNat_ofNat']; omega

/-- The numeral spells its number. -/
theorem dx_spells : ∀ (m u : Nat), u ≤ m → decN (dx u) 0 (nDigits u) 0 = some (u : Int) := by
  intro m
  induction m with
  | zero =>
    intro u h
    have hu : u = 0 := by omega
    subst hu
    rw [nDigits_small (by omega)]
    have e : dx 0 0 = 48 := by unfold dx; rw [decDigits, dif_pos (by omega)]; decide
    rw [decN, e, if_pos (by omega), decN]; rfl
  | succ m ih =>
    intro u h
    by_cases hu : u < 10
    · rw [nDigits_small hu]
      have e : dx u 0 = 48 + u := by
        unfold dx; rw [decDigits, dif_pos hu]
        simp only [List.getD_cons_zero, u8_digit u hu]; omega
      rw [decN, e, if_pos (by omega), decN]; congr 1; omega
    · rw [nDigits_big hu]
      have ih' := ih (u / 10) (by omega)
      have hl : (decDigits (u / 10)).length = nDigits (u / 10) := decDigits_length _
      have ex : decDigits u = decDigits (u / 10) ++ [UInt8.ofNat (48 + u % 10)] := by rw [decDigits, dif_neg hu]
      have e1 : ∀ k, 0 ≤ k → k < 0 + nDigits (u / 10) → dx u k = dx (u / 10) k := by
        intro k _ hk
        unfold dx
        rw [ex, List.getD_eq_getElem?_getD, List.getD_eq_getElem?_getD, List.getElem?_append_left (by omega)]
      have e2 : dx u (0 + nDigits (u / 10)) = 48 + ((u % 10 : Nat) : Int) := by
        unfold dx
        rw [ex, List.getD_eq_getElem?_getD, List.getElem?_append_right (by omega), hl]
        simp only [Nat.zero_add, Nat.sub_self, List.getElem?_cons_zero, Option.getD_some, u8_digit (u % 10) (by omega)]
        omega
      rw [decN_snoc (dx u) (nDigits (u / 10)) 0 0 ((u / 10 : Nat) : Int) (by rw [decN_same _ _ _ _ _ e1]; exact ih') (by rw [e2]; omega) (by rw [e2]; omega), e2]
      congr 1; omega

theorem spells (u : Nat) : decN (dx u) 0 (nDigits u) 0 = some (u : Int) := dx_spells u u (Nat.le_refl _)
theorem pow_le : ∀ (m u : Nat), u ≤ m → 10 ≤ u → 10 ^ (nDigits u - 1) ≤ u := by
  intro m
  induction m with
  | zero => intro u h h10; omega
  | succ m ih =>
    intro u h h10
    rw [nDigits_big (by omega)]
    by_cases hu : u / 10 < 10
    · rw [nDigits_small hu]; simp; exact h10
    · have := ih (u / 10) (by omega) (by omega)
      have hp := nDigits_pos (u / 10)
      have e : nDigits (u / 10) + 1 - 1 = (nDigits (u / 10) - 1) + 1 := by omega
      rw [e, Nat.pow_succ]
      omega
theorem nDigits_mono_lt (u v : Nat) (h : nDigits u < nDigits v) : u < v := by
  have h1 := lt_pow_nDigits u
  by_cases hv : v < 10
  · rw [nDigits_small hv] at h; have := nDigits_pos u; omega
  · have h2 := pow_le v v (Nat.le_refl _) (by omega)
    have h3 : 10 ^ nDigits u ≤ 10 ^ (nDigits v - 1) := Nat.pow_le_pow_right (by decide) (by omega)
    omega
theorem nDigits_le19 (u : Nat) (h : u < 9223372036854775808) : nDigits u ≤ 19 := by
  by_cases hu : u < 10
  · rw [nDigits_small hu]; omega
  · rcases Nat.lt_or_ge 19 (nDigits u) with g | g
    · have h2 := pow_le u u (Nat.le_refl _) (by omega)
      have h3 : 10 ^ 19 ≤ 10 ^ (nDigits u - 1) := Nat.pow_le_pow_right (by decide) (by omega)
      have h4 : (10 : Nat) ^ 19 = 10000000000000000000 := by decide
      omega
    · exact g

theorem dx_bd (u k : Nat) : 0 ≤ dx u k ∧ dx u k ≤ 255 := by
  unfold dx
  have := ((decDigits u).getD k 0).toNat_lt
  omega
/-- Each byte within it is a digit. -/
theorem digits_of (x : Nat → Int) : ∀ (n i : Nat) (a v : Int), decN x i n a = some v → ∀ k, k < n → 48 ≤ x (i + k) ∧ x (i + k) ≤ 57
  | 0, i, a, v, h, k, hk => by omega
  | n + 1, i, a, v, h, k, hk => by
    unfold decN at h
    split at h
    · rename_i g
      cases k with
      | zero => simpa using g
      | succ k =>
        have := digits_of x n (i + 1) _ v h k (by omega)
        rw [show i + (k + 1) = i + 1 + k by omega]; exact this
    · cases h
/-- A numeral of two digits or more begins with no '0'. -/
theorem decN_lead (x : Nat → Int) : ∀ (n i : Nat) (a v : Int), 0 ≤ a → decN x i n a = some v → a * 10 ^ n ≤ v ∧ v < (a + 1) * 10 ^ n
  | 0, i, a, v, h0, h => by simp [decN] at h; subst h; simp; omega
  | n + 1, i, a, v, h0, h => by
    unfold decN at h
    split at h
    · have ih := decN_lead x n (i + 1) _ v (by omega) h
      have hp : (0 : Int) < 10 ^ n := Int.pow_pos (by decide)
      constructor
      · refine Int.le_trans ?_ ih.1
        rw [Int.pow_succ, Int.mul_comm (10 ^ n) 10, ← Int.mul_assoc]
        exact Int.mul_le_mul_of_nonneg_right (by omega) (Int.le_of_lt hp)
      · refine Int.lt_of_lt_of_le ih.2 ?_
        rw [Int.pow_succ, Int.mul_comm (10 ^ n) 10, ← Int.mul_assoc]
        exact Int.mul_le_mul_of_nonneg_right (by omega) (Int.le_of_lt hp)
    · cases h
theorem no_lead (u : Nat) (h : 1 < nDigits u) : dx u 0 ≠ 48 := by
  intro h0
  have hs := spells u
  obtain ⟨n, hn⟩ : ∃ n, nDigits u = n + 1 := ⟨nDigits u - 1, by omega⟩
  rw [hn, decN, h0, if_pos (by omega)] at hs
  have hl := (decN_lead (dx u) n 1 _ _ (by omega) hs).2
  have hu : 10 ≤ u := by
    rcases Nat.lt_or_ge u 10 with g | g
    · rw [nDigits_small g] at h; omega
    · exact g
  have hp := pow_le u u (Nat.le_refl _) hu
  rw [hn] at hp
  have e0 : ((0 : Int) * 10 + (48 - 48) + 1) * 10 ^ n = ((10 ^ n : Nat) : Int) := by rw [Int.natCast_pow]; simp
  rw [e0] at hl
  have e1 : n + 1 - 1 = n := by omega
  rw [e1] at hp
  omega

/-- Numerals order as numbers: the shorter first, then from the left. -/
theorem numerals_order (u v : Nat) : ch (sgn (nDigits u) (nDigits v)) (if nDigits u = nDigits v then lex (dx u) (dx v) 0 (nDigits u) else 0) = sgn u v := by
  rcases Nat.lt_trichotomy (nDigits u) (nDigits v) with h | h | h
  · have := nDigits_mono_lt u v h
    rw [sgn_lt (by omega), ch_neg, sgn_lt (by omega)]
  · rw [if_pos h, h, sgn_self, ch_zero]
    have hv := spells v
    have hu := spells u
    rw [h] at hu
    exact (dec_lex (dx u) (dx v) (nDigits v) 0 0 0 u v hu hv).2.2 rfl
  · have := nDigits_mono_lt v u h
    rw [sgn_gt (by omega), ch_one, sgn_gt (by omega)]

/-- The fields of the 64-bit form. -/
theorem fields_order (T C N T' C' N' : Int) (c0 : 0 ≤ C) (c1 : C ≤ 4095) (n0 : 0 ≤ N) (n1 : N ≤ 1023) (c0' : 0 ≤ C') (c1' : C' ≤ 4095) (n0' : 0 ≤ N') (n1' : N' ≤ 1023) :
    sgn (T * 4194304 + (C * 1024 + N)) (T' * 4194304 + (C' * 1024 + N')) = ch (sgn T T') (ch (sgn C C') (sgn N N')) := by
  rw [limbs 4194304 _ _ _ _ (by omega) (by omega) (by omega) (by omega), limbs 1024 _ _ _ _ (by omega) (by omega) (by omega) (by omega)]
theorem sgn_sub (a b k : Int) : sgn (a - k) (b - k) = sgn a b := by
  rcases Int.lt_trichotomy a b with h | h | h
  · rw [sgn_lt h, sgn_lt (by omega)]
  · subst h; rw [sgn_self, sgn_self]
  · rw [sgn_gt h, sgn_gt (by omega)]
end Go.Proofs.Qxb6613619aFmt.Cal
