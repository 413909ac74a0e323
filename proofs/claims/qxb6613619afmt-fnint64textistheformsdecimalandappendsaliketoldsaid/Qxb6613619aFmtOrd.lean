/-
  THE PLAIN LAW ON THE ORDER OF TEXT STAMPS: two stamps compare as bytes as their values do. No Go in it.
-/
import Derived.Test.Qxb6613619aFmtCal
namespace Go.Proofs.Qxb6613619aFmt.Cal

/-- -1, 0, 1. -/
def sgn (a b : Int) : Int := if a < b then -1 else if b < a then 1 else 0
/-- The first that is not 0. -/
def ch (a b : Int) : Int := if a = 0 then b else a
/-- n bytes from place i on, compared from the left. -/
def lex (x y : Nat → Int) : Nat → Nat → Int
  | _, 0 => 0
  | i, n + 1 => if x i < y i then -1 else if y i < x i then 1 else lex x y (i + 1) n

theorem lex_add (x y : Nat → Int) : ∀ (a b i : Nat), lex x y i (a + b) = ch (lex x y i a) (lex x y (i + a) b)
  | 0, b, i => by simp [lex, ch]
  | a + 1, b, i => by
    have e : a + 1 + b = a + b + 1 := by omega
    have e2 : i + (a + 1) = i + 1 + a := by omega
    rw [e, lex, lex, lex_add x y a b (i + 1), e2]
    by_cases h1 : x i < y i
    · simp [h1, ch]
    · by_cases h2 : y i < x i
      · simp [h1, h2, ch]
      · simp [h1, h2]
theorem lex_same (x y : Nat → Int) (i n : Nat) (h : x i = y i) : lex x y i (1 + n) = lex x y (i + 1) n := by
  rw [lex_add]; simp [lex, ch, h]
theorem sgn_self (a : Int) : sgn a a = 0 := by simp [sgn]
theorem sgn_lt {a b : Int} (h : a < b) : sgn a b = -1 := by simp [sgn, h]
theorem sgn_gt {a b : Int} (h : b < a) : sgn a b = 1 := by have : ¬ a < b := by omega
                                                           simp [sgn, h, this]
theorem ch_neg (b : Int) : ch (-1) b = -1 := by simp [ch]
theorem ch_one (b : Int) : ch 1 b = 1 := by simp [ch]
theorem ch_zero (b : Int) : ch 0 b = b := by simp [ch]
theorem ch_assoc (a b c : Int) : ch (ch a b) c = ch a (ch b c) := by unfold ch; by_cases h : a = 0 <;> simp [h]

theorem dec_lex (x y : Nat → Int) : ∀ (n i : Nat) (a b u v : Int), decN x i n a = some u → decN y i n b = some v →
    (a < b → u < v) ∧ (b < a → v < u) ∧ (a = b → lex x y i n = sgn u v)
  | 0, i, a, b, u, v, hu, hv => by
    simp [decN] at hu hv; subst hu; subst hv
    exact ⟨id, id, fun h => by subst h; simp [lex, sgn]⟩
  | n + 1, i, a, b, u, v, hu, hv => by
    unfold decN at hu hv
    split at hu
    · split at hv
      · rename_i h1 h2
        have ih := dec_lex x y n (i + 1) _ _ u v hu hv
        refine ⟨fun h => ih.1 (by omega), fun h => ih.2.1 (by omega), fun h => ?_⟩
        subst h
        rw [lex]
        by_cases g1 : x i < y i
        · rw [if_pos g1, sgn_lt (ih.1 (by omega))]
        · by_cases g2 : y i < x i
          · rw [if_neg g1, if_pos g2, sgn_gt (ih.2.1 (by omega))]
          · rw [if_neg g1, if_neg g2]; exact ih.2.2 (by omega)
      · cases hv
    · cases hu
theorem hexD_mono (c d p q : Int) (h1 : hexD c = some p) (h2 : hexD d = some q) : (c < d → p < q) ∧ (d < c → q < p) ∧ (c = d → p = q) := by
  unfold hexD at h1 h2
  by_cases a : 48 ≤ c ∧ c ≤ 57
  · rw [if_pos a] at h1; cases h1
    by_cases b : 48 ≤ d ∧ d ≤ 57
    · rw [if_pos b] at h2; cases h2; omega
    · rw [if_neg b] at h2
      by_cases e : 97 ≤ d ∧ d ≤ 102
      · rw [if_pos e] at h2; cases h2; omega
      · rw [if_neg e] at h2; cases h2
  · rw [if_neg a] at h1
    by_cases a' : 97 ≤ c ∧ c ≤ 102
    · rw [if_pos a'] at h1; cases h1
      by_cases b : 48 ≤ d ∧ d ≤ 57
      · rw [if_pos b] at h2; cases h2; omega
      · rw [if_neg b] at h2
        by_cases e : 97 ≤ d ∧ d ≤ 102
        · rw [if_pos e] at h2; cases h2; omega
        · rw [if_neg e] at h2; cases h2
    · rw [if_neg a'] at h1; cases h1
theorem hex_lex (x y : Nat → Int) : ∀ (n i : Nat) (a b u v : Int), hexN x i n a = some u → hexN y i n b = some v →
    (a < b → u < v) ∧ (b < a → v < u) ∧ (a = b → lex x y i n = sgn u v)
  | 0, i, a, b, u, v, hu, hv => by
    simp [hexN] at hu hv; subst hu; subst hv
    exact ⟨id, id, fun h => by subst h; simp [lex, sgn]⟩
  | n + 1, i, a, b, u, v, hu, hv => by
    unfold hexN at hu hv
    split at hu
    · rename_i p hp
      split at hv
      · rename_i q hq
        have bp := hexD_bd _ _ hp
        have bq := hexD_bd _ _ hq
        have hm := hexD_mono _ _ _ _ hp hq
        have ih := hex_lex x y n (i + 1) _ _ u v hu hv
        refine ⟨fun h => ih.1 (by omega), fun h => ih.2.1 (by omega), fun h => ?_⟩
        subst h
        rw [lex]
        by_cases g1 : x i < y i
        · rw [if_pos g1, sgn_lt (ih.1 (by have := hm.1 g1; omega))]
        · by_cases g2 : y i < x i
          · rw [if_neg g1, if_pos g2, sgn_gt (ih.2.1 (by have := hm.2.1 g2; omega))]
          · rw [if_neg g1, if_neg g2]; exact ih.2.2 (by have := hm.2.2 (by omega); omega)
      · cases hv
    · cases hu
theorem dec_sgn (x y : Nat → Int) (i n : Nat) (hu : 0 ≤ decV x i n) (hv : 0 ≤ decV y i n) : lex x y i n = sgn (decV x i n) (decV y i n) :=
  (dec_lex x y n i 0 0 _ _ (decN_of x i n hu) (decN_of y i n hv)).2.2 rfl
theorem hex_sgn (x y : Nat → Int) (i n : Nat) (hu : 0 ≤ hexV x i n) (hv : 0 ≤ hexV y i n) : lex x y i n = sgn (hexV x i n) (hexV y i n) :=
  (hex_lex x y n i 0 0 _ _ (hexN_of x i n hu) (hexN_of y i n hv)).2.2 rfl

theorem dfy_mono (a b : Int) (h : a ≤ b) : dfy a ≤ dfy b := by unfold dfy; omega
theorem dbm_mono (a b l : Int) (h0 : 1 ≤ a) (h : a ≤ b) (l0 : 0 ≤ l) : dbm a l ≤ dbm b l := by
  unfold dbm
  by_cases a1 : a = 1
  · rw [if_pos a1]
    by_cases b1 : b = 1
    · rw [if_pos b1]; omega
    · rw [if_neg b1]; by_cases b2 : b = 2
      · rw [if_pos b2]; omega
      · rw [if_neg b2]; omega
  · rw [if_neg a1]
    have b1 : ¬ b = 1 := by omega
    rw [if_neg b1]
    by_cases a2 : a = 2
    · rw [if_pos a2]; by_cases b2 : b = 2
      · rw [if_pos b2]; omega
      · rw [if_neg b2]; omega
    · have b2 : ¬ b = 2 := by omega
      rw [if_neg a2, if_neg b2]; omega
theorem dbm_13 (l : Int) : dbm 13 l = 365 + l := by unfold dbm; rw [if_neg (by decide), if_neg (by decide)]; omega

/-- The day's number orders as year, month, day. -/
theorem day_sgn (Y M D Y' M' D' : Int) (m1 : 1 ≤ M) (m2 : M ≤ 12) (d1 : 1 ≤ D) (d2 : D ≤ mdays M (leapB Y)) (m1' : 1 ≤ M') (m2' : M' ≤ 12) (d1' : 1 ≤ D') (d2' : D' ≤ mdays M' (leapB Y')) :
    sgn (d70 Y + dbm M (lp Y) + D - 1) (d70 Y' + dbm M' (lp Y') + D' - 1) = ch (sgn Y Y') (ch (sgn M M') (sgn D D')) := by
  have key : ∀ (Y M D Y' M' D' : Int), 1 ≤ M → M ≤ 12 → 1 ≤ D → D ≤ mdays M (leapB Y) → 1 ≤ M' → M' ≤ 12 → 1 ≤ D' → Y < Y' → d70 Y + dbm M (lp Y) + D - 1 < d70 Y' + dbm M' (lp Y') + D' - 1 := by
    intro Y M D Y' M' D' m1 m2 d1 d2 m1' m2' d1' h
    have e := dbm_succ M Y m1 m2
    have e13 := dbm_mono (M + 1) 13 (lp Y) (by omega) (by omega) (lp_01 Y).1
    rw [dbm_13] at e13
    have ey := d70_succ Y
    have em := dfy_mono (Y + 1) Y' (by omega)
    have eb := (dbm_bd M' (lp Y') m1' (by omega) (lp_01 Y').1 (lp_01 Y').2).1
    have f1 : d70 (Y + 1) = dfy (Y + 1) - 719162 := rfl
    have f2 : d70 Y' = dfy Y' - 719162 := rfl
    omega
  rcases Int.lt_trichotomy Y Y' with h | h | h
  · rw [sgn_lt h, ch_neg, sgn_lt (key Y M D Y' M' D' m1 m2 d1 d2 m1' m2' d1' h)]
  · subst h
    rw [sgn_self, ch_zero]
    have key2 : ∀ (M D M' D' : Int), 1 ≤ M → M ≤ 12 → D ≤ mdays M (leapB Y) → 1 ≤ D' → M < M' → dbm M (lp Y) + D - 1 < dbm M' (lp Y) + D' - 1 := by
      intro M D M' D' m1 m2 d2 d1' h
      have e := dbm_succ M Y m1 m2
      have em := dbm_mono (M + 1) M' (lp Y) (by omega) (by omega) (lp_01 Y).1
      omega
    rcases Int.lt_trichotomy M M' with g | g | g
    · rw [sgn_lt g, ch_neg, sgn_lt (by have := key2 M D M' D' m1 m2 d2 d1' g; omega)]
    · subst g
      rw [sgn_self, ch_zero]
      rcases Int.lt_trichotomy D D' with f | f | f
      · rw [sgn_lt f, sgn_lt (by omega)]
      · subst f; rw [sgn_self, sgn_self]
      · rw [sgn_gt f, sgn_gt (by omega)]
    · rw [sgn_gt g, ch_one, sgn_gt (by have := key2 M' D' M D m1' m2' d2' d1 g; omega)]
  · rw [sgn_gt h, ch_one, sgn_gt (key Y' M' D' Y M D m1' m2' d1' d2' m1 m2 d1 h)]

/-- A number of two limbs orders as its limbs. -/
theorem limbs (k q r q' r' : Int) (h0 : 0 ≤ r) (h1 : r < k) (h0' : 0 ≤ r') (h1' : r' < k) : sgn (q * k + r) (q' * k + r') = ch (sgn q q') (sgn r r') := by
  have key : ∀ q r q' r' : Int, 0 ≤ r → r < k → 0 ≤ r' → q < q' → q * k + r < q' * k + r' := by
    intro q r q' r' a b c d
    have e : (q + 1) * k ≤ q' * k := Int.mul_le_mul_of_nonneg_right (by omega) (by omega)
    rw [Int.add_mul, Int.one_mul] at e
    omega
  rcases Int.lt_trichotomy q q' with h | h | h
  · rw [sgn_lt h, ch_neg, sgn_lt (key _ _ _ _ h0 h1 h0' h)]
  · subst h
    rw [sgn_self, ch_zero]
    rcases Int.lt_trichotomy r r' with f | f | f
    · rw [sgn_lt f, sgn_lt (by omega)]
    · subst f; rw [sgn_self, sgn_self]
    · rw [sgn_gt f, sgn_gt (by omega)]
  · rw [sgn_gt h, ch_one, sgn_gt (key _ _ _ _ h0' h1' h0 h)]

/-- What a stamp says of its fields. -/
theorem stamp_parts (x : Nat → Int) (h : stampB x = true) :
    (x 4 = 45 ∧ x 7 = 45 ∧ x 10 = 84 ∧ x 13 = 58 ∧ x 16 = 58 ∧ x 19 = 46 ∧ x 23 = 90 ∧ x 24 = 45 ∧ x 29 = 45) ∧
    (1970 ≤ decV x 0 4 ∧ 1 ≤ decV x 5 2 ∧ decV x 5 2 ≤ 12 ∧ 1 ≤ decV x 8 2 ∧ decV x 8 2 ≤ mdays (decV x 5 2) (leapB (decV x 0 4)) ∧ 0 ≤ decV x 11 2 ∧ decV x 11 2 ≤ 23 ∧ 0 ≤ decV x 14 2 ∧ decV x 14 2 ≤ 59 ∧ 0 ≤ decV x 17 2 ∧ decV x 17 2 ≤ 59 ∧ 0 ≤ decV x 20 3 ∧ decV x 20 3 < 1000) ∧
    0 ≤ hexV x 25 4 ∧ 0 ≤ hexV x 30 6 := by
  unfold stampB timeB dayB sepT at h
  simp only [Bool.and_eq_true, decide_eq_true_eq] at h
  obtain ⟨⟨⟨a1, a2⟩, ⟨⟨b1, b2, b3, b4, b5, b6, b7⟩, c1, c2, c3, c4, c5, c6, c7, c8, c9, c10⟩, e1, e2⟩, f1, f2⟩ := h
  have l := (decV_bd x 20 3).2
  exact ⟨⟨b1, b2, b3, b4, b5, b6, b7, a1, a2⟩, ⟨c1, c2, c3, e1, e2, c4, c5, c6, c7, c8, c9, c10, by omega⟩, f1, f2⟩

/-- ████ STAMPS COMPARE AS BYTES AS THEIR VALUES DO. -/
theorem stamps_order (x y : Nat → Int) (hx : stampB x = true) (hy : stampB y = true) :
    lex x y 0 36 = ch (sgn (msOf x) (msOf y)) (ch (sgn (hexV x 25 4) (hexV y 25 4)) (sgn (hexV x 30 6) (hexV y 30 6))) := by
  obtain ⟨⟨s4, s7, s10, s13, s16, s19, s23, s24, s29⟩, ⟨y1, m1, m2, d1, d2, h1, h2, i1, i2, t1, t2, l1, l2⟩, f1, f2⟩ := stamp_parts x hx
  obtain ⟨⟨s4', s7', s10', s13', s16', s19', s23', s24', s29'⟩, ⟨y1', m1', m2', d1', d2', h1', h2', i1', i2', t1', t2', l1', l2'⟩, f1', f2'⟩ := stamp_parts y hy
  have e0 : lex x y 0 36 = ch (lex x y 0 4) (lex x y 4 (1 + 31)) := lex_add x y 4 32 0
  have e5 : lex x y 5 31 = ch (lex x y 5 2) (lex x y 7 (1 + 28)) := lex_add x y 2 29 5
  have e8 : lex x y 8 28 = ch (lex x y 8 2) (lex x y 10 (1 + 25)) := lex_add x y 2 26 8
  have e11 : lex x y 11 25 = ch (lex x y 11 2) (lex x y 13 (1 + 22)) := lex_add x y 2 23 11
  have e14 : lex x y 14 22 = ch (lex x y 14 2) (lex x y 16 (1 + 19)) := lex_add x y 2 20 14
  have e17 : lex x y 17 19 = ch (lex x y 17 2) (lex x y 19 (1 + 16)) := lex_add x y 2 17 17
  have e20 : lex x y 20 16 = ch (lex x y 20 3) (lex x y 23 (1 + 12)) := lex_add x y 3 13 20
  have e24 : lex x y 24 12 = lex x y 25 11 := lex_same x y 24 11 (by omega)
  have e25 : lex x y 25 11 = ch (lex x y 25 4) (lex x y 29 (1 + 6)) := lex_add x y 4 7 25
  rw [e0, lex_same x y 4 31 (by omega), e5, lex_same x y 7 28 (by omega), e8, lex_same x y 10 25 (by omega), e11, lex_same x y 13 22 (by omega), e14, lex_same x y 16 19 (by omega), e17, lex_same x y 19 16 (by omega), e20,
    lex_same x y 23 12 (by omega), e24, e25, lex_same x y 29 6 (by omega)]
  rw [dec_sgn x y 0 4 (by omega) (by omega), dec_sgn x y 5 2 (by omega) (by omega), dec_sgn x y 8 2 (by omega) (by omega), dec_sgn x y 11 2 h1 h1', dec_sgn x y 14 2 i1 i1', dec_sgn x y 17 2 t1 t1', dec_sgn x y 20 3 l1 l1',
    hex_sgn x y 25 4 f1 f1', hex_sgn x y 30 6 f2 f2']
  have em : sgn (msOf x) (msOf y) = ch (sgn (decV x 0 4) (decV y 0 4)) (ch (sgn (decV x 5 2) (decV y 5 2)) (ch (sgn (decV x 8 2) (decV y 8 2)) (ch (sgn (decV x 11 2) (decV y 11 2)) (ch (sgn (decV x 14 2) (decV y 14 2)) (ch (sgn (decV x 17 2) (decV y 17 2)) (sgn (decV x 20 3) (decV y 20 3))))))) := by
    unfold msOf
    rw [Int.add_assoc _ (decV x 17 2 * 1000), Int.add_assoc _ (decV x 14 2 * 60000), Int.add_assoc _ (decV x 11 2 * 3600000)]
    rw [Int.add_assoc _ (decV y 17 2 * 1000), Int.add_assoc _ (decV y 14 2 * 60000), Int.add_assoc _ (decV y 11 2 * 3600000)]
    rw [limbs 86400000 _ _ _ _ (by omega) (by omega) (by omega) (by omega), limbs 3600000 _ _ _ _ (by omega) (by omega) (by omega) (by omega), limbs 60000 _ _ _ _ (by omega) (by omega) (by omega) (by omega), limbs 1000 _ _ _ _ (by omega) (by omega) (by omega) (by omega),
      day_sgn _ _ _ _ _ _ m1 m2 d1 d2 m1' m2' d1' d2']
    simp only [ch_assoc]
  rw [em]
  simp only [ch_assoc]
end Go.Proofs.Qxb6613619aFmt.Cal
