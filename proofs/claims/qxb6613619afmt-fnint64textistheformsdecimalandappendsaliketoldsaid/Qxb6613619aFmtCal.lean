/-
  THE PLAIN MATHEMATICS OF THE TEXT STAMP: no Go in it. The calendar (days before a year, before a month), decimal and hexadecimal fields read out of a function 'x : Nat → Int' of bytes, and the stamp that a text of 36 bytes spells.
-/
namespace Go.Proofs.Qxb6613619aFmt.Cal

/-- Days from 0001-01-01 to January 1 of year y. -/
def dfy (y : Int) : Int := 365 * (y - 1) + (y - 1) / 4 - (y - 1) / 100 + (y - 1) / 400
/-- 1 in a leap year, else 0. -/
def lp (y : Int) : Int := if y % 4 = 0 ∧ (y % 100 ≠ 0 ∨ y % 400 = 0) then 1 else 0
def leapB (y : Int) : Bool := decide (y % 4 = 0 ∧ (y % 100 ≠ 0 ∨ y % 400 = 0))
theorem lp_01 (y : Int) : 0 ≤ lp y ∧ lp y ≤ 1 := by unfold lp; split <;> omega
theorem lp_of (y : Int) : lp y = if leapB y then 1 else 0 := by unfold lp leapB; simp
theorem dfy_succ (y : Int) : dfy (y + 1) = dfy y + 365 + lp y := by
  unfold dfy lp
  have h4 : (y + 1 - 1) / 4 = (y - 1) / 4 + if y % 4 = 0 then 1 else 0 := by split <;> omega
  have h100 : (y + 1 - 1) / 100 = (y - 1) / 100 + if y % 100 = 0 then 1 else 0 := by split <;> omega
  have h400 : (y + 1 - 1) / 400 = (y - 1) / 400 + if y % 400 = 0 then 1 else 0 := by split <;> omega
  rw [h4, h100, h400]
  by_cases a : y % 4 = 0 <;> by_cases b : y % 100 = 0 <;> by_cases c : y % 400 = 0 <;> simp [a, b, c] <;> omega
theorem dfy_bd (y : Int) (h0 : 1 ≤ y) (h1 : y ≤ 10000) : 0 ≤ dfy y ∧ dfy y ≤ 3652425 := by unfold dfy; omega
theorem dfy_1970 : dfy 1970 = 719162 := by decide
/-- Days from 1970-01-01 to January 1 of year y. -/
def d70 (y : Int) : Int := dfy y - 719162
theorem d70_succ (y : Int) : d70 (y + 1) = d70 y + 365 + lp y := by unfold d70; rw [dfy_succ]; omega
theorem d70_start : d70 1970 = 0 := by decide

/-- Days from January 1 to the first of month m. -/
def dbm (m l : Int) : Int := if m = 1 then 0 else if m = 2 then 31 else 59 + l + (153 * (m - 3) + 2) / 5
/-- The days of month m. -/
def mdays (m : Int) (l : Bool) : Int :=
  if m = 1 ∨ m = 3 ∨ m = 5 ∨ m = 7 ∨ m = 8 ∨ m = 10 ∨ m = 12 then 31
  else if m = 4 ∨ m = 6 ∨ m = 9 ∨ m = 11 then 30
  else if m = 2 then (if l then 29 else 28) else 0
theorem dbm_succ (m y : Int) (h1 : 1 ≤ m) (h2 : m ≤ 12) : dbm (m + 1) (lp y) = dbm m (lp y) + mdays m (leapB y) := by
  rw [lp_of]
  have : m = 1 ∨ m = 2 ∨ m = 3 ∨ m = 4 ∨ m = 5 ∨ m = 6 ∨ m = 7 ∨ m = 8 ∨ m = 9 ∨ m = 10 ∨ m = 11 ∨ m = 12 := by omega
  cases leapB y <;> rcases this with h | h | h | h | h | h | h | h | h | h | h | h <;> subst h <;> decide
theorem dbm_bd (m l : Int) (h1 : 1 ≤ m) (h2 : m ≤ 13) (h3 : 0 ≤ l) (h4 : l ≤ 1) : 0 ≤ dbm m l ∧ dbm m l ≤ 366 := by
  unfold dbm; split
  · omega
  · split <;> omega
theorem mdays_bd (m : Int) (l : Bool) : 0 ≤ mdays m l ∧ mdays m l ≤ 31 := by
  unfold mdays; split
  · omega
  · split
    · omega
    · split
      · cases l <;> simp
      · omega

/-- The number that n bytes from place i on spell in decimal, behind what was read (acc). -/
def decN (x : Nat → Int) : Nat → Nat → Int → Option Int
  | _, 0, acc => some acc
  | i, n + 1, acc => if 48 ≤ x i ∧ x i ≤ 57 then decN x (i + 1) n (acc * 10 + (x i - 48)) else none
/-- The number that n bytes from place i on spell in lowercase hexadecimal. -/
def hexD (c : Int) : Option Int := if 48 ≤ c ∧ c ≤ 57 then some (c - 48) else if 97 ≤ c ∧ c ≤ 102 then some (c - 97 + 10) else none
def hexN (x : Nat → Int) : Nat → Nat → Int → Option Int
  | _, 0, acc => some acc
  | i, n + 1, acc => match hexD (x i) with
    | some d => hexN x (i + 1) n (acc * 16 + d)
    | none => none
theorem hexD_bd (c d : Int) (h : hexD c = some d) : 0 ≤ d ∧ d ≤ 15 := by
  unfold hexD at h
  split at h
  · cases h; omega
  · split at h
    · cases h; omega
    · cases h
theorem decN_bd (x : Nat → Int) : ∀ (n i : Nat) (acc v : Int), 0 ≤ acc → decN x i n acc = some v → 0 ≤ v ∧ v < (acc + 1) * 10 ^ n
  | 0, i, acc, v, h0, h => by simp [decN] at h; subst h; simp; omega
  | n + 1, i, acc, v, h0, h => by
    unfold decN at h
    split at h
    · have ih := decN_bd x n (i + 1) _ v (by omega) h
      refine ⟨ih.1, Int.lt_of_lt_of_le ih.2 ?_⟩
      rw [Int.pow_succ, Int.mul_comm (10 ^ n) 10, ← Int.mul_assoc]
      exact Int.mul_le_mul_of_nonneg_right (by omega) (Int.le_of_lt (Int.pow_pos (by decide)))
    · cases h
theorem hexN_bd (x : Nat → Int) : ∀ (n i : Nat) (acc v : Int), 0 ≤ acc → hexN x i n acc = some v → 0 ≤ v ∧ v < (acc + 1) * 16 ^ n
  | 0, i, acc, v, h0, h => by simp [hexN] at h; subst h; simp; omega
  | n + 1, i, acc, v, h0, h => by
    unfold hexN at h
    split at h
    · rename_i d hd
      have hb := hexD_bd _ _ hd
      have ih := hexN_bd x n (i + 1) _ v (by omega) h
      refine ⟨ih.1, Int.lt_of_lt_of_le ih.2 ?_⟩
      rw [Int.pow_succ, Int.mul_comm (16 ^ n) 16, ← Int.mul_assoc]
      exact Int.mul_le_mul_of_nonneg_right (by omega) (Int.le_of_lt (Int.pow_pos (by decide)))
    · cases h

/-- The Go function's answer: -1 where a byte is no digit. -/
def decV (x : Nat → Int) (i n : Nat) : Int := (decN x i n 0).getD (-1)
def hexV (x : Nat → Int) (i n : Nat) : Int := (hexN x i n 0).getD (-1)
theorem decV_bd (x : Nat → Int) (i n : Nat) : -1 ≤ decV x i n ∧ decV x i n < 10 ^ n := by
  unfold decV
  cases h : decN x i n 0 with
  | none => simp; have : (0 : Int) < 10 ^ n := Int.pow_pos (by decide); omega
  | some v => have := decN_bd x n i 0 v (by omega) h; simp at this ⊢; omega
theorem hexV_bd (x : Nat → Int) (i n : Nat) : -1 ≤ hexV x i n ∧ hexV x i n < 16 ^ n := by
  unfold hexV
  cases h : hexN x i n 0 with
  | none => simp; have : (0 : Int) < 16 ^ n := Int.pow_pos (by decide); omega
  | some v => have := hexN_bd x n i 0 v (by omega) h; simp at this ⊢; omega
theorem decN_of (x : Nat → Int) (i n : Nat) (h : 0 ≤ decV x i n) : decN x i n 0 = some (decV x i n) := by
  unfold decV at h ⊢
  cases e : decN x i n 0 with
  | none => rw [e] at h; simp at h
  | some v => rfl
theorem decN_none (x : Nat → Int) (i n : Nat) (h : decV x i n < 0) : decN x i n 0 = none := by
  cases e : decN x i n 0 with
  | none => rfl
  | some v => have := decN_bd x n i 0 v (by omega) e; unfold decV at h; rw [e] at h; simp at h; omega
theorem hexN_of (x : Nat → Int) (i n : Nat) (h : 0 ≤ hexV x i n) : hexN x i n 0 = some (hexV x i n) := by
  unfold hexV at h ⊢
  cases e : hexN x i n 0 with
  | none => rw [e] at h; simp at h
  | some v => rfl
theorem hexN_none (x : Nat → Int) (i n : Nat) (h : hexV x i n < 0) : hexN x i n 0 = none := by
  cases e : hexN x i n 0 with
  | none => rfl
  | some v => have := hexN_bd x n i 0 v (by omega) e; unfold hexV at h; rw [e] at h; simp at h; omega

/-- A power of ten, of sixteen, behind a name. -/
def p10 (k : Nat) : Int := 10 ^ k
def p16 (k : Nat) : Int := 16 ^ k
theorem p10_succ (k : Nat) : p10 (k + 1) = 10 * p10 k := by unfold p10; rw [Int.pow_succ, Int.mul_comm]
theorem p16_succ (k : Nat) : p16 (k + 1) = 16 * p16 k := by unfold p16; rw [Int.pow_succ, Int.mul_comm]
theorem p10_le (k : Nat) (h : k ≤ 6) : p10 k ≤ 1000000 := by
  have : k = 0 ∨ k = 1 ∨ k = 2 ∨ k = 3 ∨ k = 4 ∨ k = 5 ∨ k = 6 := by omega
  rcases this with h | h | h | h | h | h | h <;> subst h <;> decide
theorem p16_le (k : Nat) (h : k ≤ 6) : p16 k ≤ 16777216 := by
  have : k = 0 ∨ k = 1 ∨ k = 2 ∨ k = 3 ∨ k = 4 ∨ k = 5 ∨ k = 6 := by omega
  rcases this with h | h | h | h | h | h | h <;> subst h <;> decide
/-- One round of the reading: the digit, then the rest. -/
theorem decN_digit (x : Nat → Int) (i k n : Nat) (v : Int) (hk : k < n) (h : 48 ≤ x (i + k) ∧ x (i + k) ≤ 57) : decN x (i + k) (n - k) v = decN x (i + (k + 1)) (n - (k + 1)) (v * 10 + (x (i + k) - 48)) := by
  have e : n - k = n - (k + 1) + 1 := by omega
  rw [e, decN, if_pos h]; rfl
theorem decN_other (x : Nat → Int) (i k n : Nat) (v : Int) (hk : k < n) (h : ¬ (48 ≤ x (i + k) ∧ x (i + k) ≤ 57)) : decN x (i + k) (n - k) v = none := by
  have e : n - k = n - (k + 1) + 1 := by omega
  rw [e, decN, if_neg h]
theorem decN_end (x : Nat → Int) (i k n : Nat) (v : Int) (hk : n ≤ k) : decN x (i + k) (n - k) v = some v := by
  have e : n - k = 0 := by omega
  rw [e, decN]
theorem hexN_digit (x : Nat → Int) (i k n : Nat) (v : Int) (hk : k < n) (h : 48 ≤ x (i + k) ∧ x (i + k) ≤ 57) : hexN x (i + k) (n - k) v = hexN x (i + (k + 1)) (n - (k + 1)) (v * 16 + (x (i + k) - 48)) := by
  have e : n - k = n - (k + 1) + 1 := by omega
  have d : hexD (x (i + k)) = some (x (i + k) - 48) := by unfold hexD; rw [if_pos h]
  rw [e, hexN, d]; rfl
theorem hexN_letter (x : Nat → Int) (i k n : Nat) (v : Int) (hk : k < n) (h : 97 ≤ x (i + k) ∧ x (i + k) ≤ 102) : hexN x (i + k) (n - k) v = hexN x (i + (k + 1)) (n - (k + 1)) (v * 16 + (x (i + k) - 97 + 10)) := by
  have e : n - k = n - (k + 1) + 1 := by omega
  have d : hexD (x (i + k)) = some (x (i + k) - 97 + 10) := by unfold hexD; rw [if_neg (by omega), if_pos h]
  rw [e, hexN, d]; rfl
theorem hexN_other (x : Nat → Int) (i k n : Nat) (v : Int) (hk : k < n) (h1 : ¬ (48 ≤ x (i + k) ∧ x (i + k) ≤ 57)) (h2 : ¬ (97 ≤ x (i + k) ∧ x (i + k) ≤ 102)) : hexN x (i + k) (n - k) v = none := by
  have e : n - k = n - (k + 1) + 1 := by omega
  have d : hexD (x (i + k)) = none := by unfold hexD; rw [if_neg h1, if_neg h2]
  rw [e, hexN, d]
theorem hexN_end (x : Nat → Int) (i k n : Nat) (v : Int) (hk : n ≤ k) : hexN x (i + k) (n - k) v = some v := by
  have e : n - k = 0 := by omega
  rw [e, hexN]

/-- The separators of the time, of the stamp. -/
def sepT (x : Nat → Int) : Bool := decide (x 4 = 45 ∧ x 7 = 45 ∧ x 10 = 84 ∧ x 13 = 58 ∧ x 16 = 58 ∧ x 19 = 46 ∧ x 23 = 90)
/-- A time of day and a month, year and day that are there. -/
def timeB (x : Nat → Int) : Bool :=
  sepT x && decide (1970 ≤ decV x 0 4 ∧ 1 ≤ decV x 5 2 ∧ decV x 5 2 ≤ 12 ∧ 0 ≤ decV x 11 2 ∧ decV x 11 2 ≤ 23 ∧ 0 ≤ decV x 14 2 ∧ decV x 14 2 ≤ 59 ∧ 0 ≤ decV x 17 2 ∧ decV x 17 2 ≤ 59 ∧ 0 ≤ decV x 20 3)
def dayB (x : Nat → Int) : Bool := decide (1 ≤ decV x 8 2 ∧ decV x 8 2 ≤ mdays (decV x 5 2) (leapB (decV x 0 4)))
/-- The milliseconds since the epoch that the text spells. -/
def msOf (x : Nat → Int) : Int :=
  (d70 (decV x 0 4) + dbm (decV x 5 2) (lp (decV x 0 4)) + decV x 8 2 - 1) * 86400000 + decV x 11 2 * 3600000 + decV x 14 2 * 60000 + decV x 17 2 * 1000 + decV x 20 3
/-- Is the text of 36 bytes a stamp? -/
def stampB (x : Nat → Int) : Bool := decide (x 24 = 45 ∧ x 29 = 45) && (timeB x && dayB x) && decide (0 ≤ hexV x 25 4 ∧ 0 ≤ hexV x 30 6)
end Go.Proofs.Qxb6613619aFmt.Cal
