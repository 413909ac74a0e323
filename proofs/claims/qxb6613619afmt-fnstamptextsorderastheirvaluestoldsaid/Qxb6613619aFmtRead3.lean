/-
  zzReadStamp, whole: it reads just the texts that parseStamp reads, as the same values.
-/
import Derived.Test.Qxb6613619aFmtRead2
import Derived.Test.Qxb6613619aFmtUnm
namespace Go.Proofs.Qxb6613619aFmt
open Go.RowKit

theorem dec_yes (x : Nat → Int) (i n : Nat) (h : (Cal.decN x i n 0).isSome = true) : (Cal.decN x i n 0).getD 0 = Cal.decV x i n ∧ 0 ≤ Cal.decV x i n := by
  unfold Cal.decV
  cases e : Cal.decN x i n 0 with
  | none => rw [e] at h; cases h
  | some v => exact ⟨rfl, (Cal.decN_bd x n i 0 v (by omega) e).1⟩
theorem dec_of (x : Nat → Int) (i n : Nat) (h : 0 ≤ Cal.decV x i n) : (Cal.decN x i n 0).isSome = true ∧ (Cal.decN x i n 0).getD 0 = Cal.decV x i n := by
  rw [Cal.decN_of x i n h]; exact ⟨rfl, rfl⟩
theorem hex_yes (x : Nat → Int) (i n : Nat) (h : (Cal.hexN x i n 0).isSome = true) : (Cal.hexN x i n 0).getD 0 = Cal.hexV x i n ∧ 0 ≤ Cal.hexV x i n := by
  unfold Cal.hexV
  cases e : Cal.hexN x i n 0 with
  | none => rw [e] at h; cases h
  | some v => exact ⟨rfl, (Cal.hexN_bd x n i 0 v (by omega) e).1⟩
theorem hex_of (x : Nat → Int) (i n : Nat) (h : 0 ≤ Cal.hexV x i n) : (Cal.hexN x i n 0).isSome = true ∧ (Cal.hexN x i n 0).getD 0 = Cal.hexV x i n := by
  rw [Cal.hexN_of x i n h]; exact ⟨rfl, rfl⟩
theorem dec_bd0 (x : Nat → Int) (i n : Nat) : 0 ≤ (Cal.decN x i n 0).getD 0 ∧ (Cal.decN x i n 0).getD 0 < 10 ^ n := by
  cases e : Cal.decN x i n 0 with
  | none => exact ⟨by simp, by simp; exact Int.pow_pos (by decide)⟩
  | some v => have := Cal.decN_bd x n i 0 v (by omega) e; simp at this ⊢; exact this

def RdC (len : Nat) (x : Nat → Int) (w : World) (e : Ending) (w' : World) : Prop :=
  ((decide (len = 36) && Cal.stampB x) = true ∧ e = .returned (.tuple #[.int .i64 (Cal.msOf x), .int .i64 (Cal.hexV x 25 4), .int .i64 (Cal.hexV x 30 6), .bool true]) ∧ w' = w) ∨
  ((decide (len = 36) && Cal.stampB x) = false ∧ RdNo w e w')

theorem rd_c (p : Option Addr) (len cap : Nat) (x : Nat → Int) (w : World) (ht : TextAt w p len cap x) : Calls Tryf.prog 20 #[.slice p len cap] w (RdC len x w) := by
  by_cases hlen : len = 36
  · subst hlen
    rcases ht.lies with h0 | ⟨b, o, rfl, hlt, hc⟩
    · omega
    by_cases hsep : x 4 = 45 ∧ x 7 = 45 ∧ x 10 = 84 ∧ x 13 = 58 ∧ x 16 = 58 ∧ x 19 = 46 ∧ x 23 = 90 ∧ x 24 = 45 ∧ x 29 = 45
    · obtain ⟨s4, s7, s10, s13, s16, s19, s23, s24, s29⟩ := hsep
      have b0 := dec_bd0 x 0 4
      have b1 := dec_bd0 x 5 2
      have b2 := dec_bd0 x 8 2
      have b3 := dec_bd0 x 11 2
      have b4 := dec_bd0 x 14 2
      have b5 := dec_bd0 x 17 2
      have b6 := dec_bd0 x 20 3
      refine (rd_main b o cap x w _ _ _ _ _ _ _ _ _ _ _ _ _ _ _ _ _ _ ht.xb hc s4 s7 s10 s13 s16 s19 s23 s24 s29 rfl rfl rfl rfl rfl rfl rfl rfl rfl rfl rfl rfl rfl rfl rfl rfl rfl rfl
        b0.1 (by omega) b1.1 (by omega) b2.1 (by omega) b3.1 (by omega) b4.1 (by omega) b5.1 (by omega) b6.1 (by omega)).mono ?_
      have hs : Cal.stampB x = (Cal.timeB x && Cal.dayB x && decide (0 ≤ Cal.hexV x 25 4 ∧ 0 ≤ Cal.hexV x 30 6)) := by
        unfold Cal.stampB; simp [s24, s29]
      have hsT : Cal.sepT x = true := by unfold Cal.sepT; simp [s4, s7, s10, s13, s16, s19, s23]
      rintro e w' (⟨hq, rfl, rfl⟩ | ⟨hq, hno⟩)
      · simp only [Bool.and_eq_true, decide_eq_true_eq] at hq
        obtain ⟨⟨⟨⟨⟨⟨⟨⟨⟨k0, k1⟩, k2⟩, k3⟩, k4⟩, k5⟩, k6⟩, k7⟩, k8⟩, g1, g2, g3, g4, g5, g6, g7, g8⟩ := hq
        obtain ⟨e0, v0⟩ := dec_yes x 0 4 k0
        obtain ⟨e1, v1⟩ := dec_yes x 5 2 k1
        obtain ⟨e2, v2⟩ := dec_yes x 8 2 k2
        obtain ⟨e3, v3⟩ := dec_yes x 11 2 k3
        obtain ⟨e4, v4⟩ := dec_yes x 14 2 k4
        obtain ⟨e5, v5⟩ := dec_yes x 17 2 k5
        obtain ⟨e6, v6⟩ := dec_yes x 20 3 k6
        obtain ⟨e7, v7⟩ := hex_yes x 25 4 k7
        obtain ⟨e8, v8⟩ := hex_yes x 30 6 k8
        rw [e0, e1, e2, e3, e4, e5, e6, e7, e8]
        rw [e0] at g1 g5; rw [e1] at g2 g3 g5; rw [e2] at g4 g5; rw [e3] at g6; rw [e4] at g7; rw [e5] at g8
        refine Or.inl ⟨?_, rfl, rfl⟩
        rw [hs]
        unfold Cal.timeB Cal.dayB
        rw [hsT]
        simp only [Bool.true_and, Bool.and_eq_true, decide_eq_true_eq]
        exact ⟨trivial, ⟨⟨g1, g2, g3, v3, g6, v4, g7, v5, g8, v6⟩, g4, g5⟩, v7, v8⟩
      · refine Or.inr ⟨?_, hno⟩
        rw [hs, Bool.eq_false_iff]
        intro hy
        unfold Cal.timeB Cal.dayB at hy
        rw [hsT] at hy
        simp only [Bool.true_and, Bool.and_eq_true, decide_eq_true_eq] at hy
        obtain ⟨_, ⟨⟨g1, g2, g3, v3, g6, v4, g7, v5, g8, v6⟩, g4, g5⟩, v7, v8⟩ := hy
        obtain ⟨k0, e0⟩ := dec_of x 0 4 (by omega)
        obtain ⟨k1, e1⟩ := dec_of x 5 2 (by omega)
        obtain ⟨k2, e2⟩ := dec_of x 8 2 (by omega)
        obtain ⟨k3, e3⟩ := dec_of x 11 2 v3
        obtain ⟨k4, e4⟩ := dec_of x 14 2 v4
        obtain ⟨k5, e5⟩ := dec_of x 17 2 v5
        obtain ⟨k6, e6⟩ := dec_of x 20 3 v6
        obtain ⟨k7, e7⟩ := hex_of x 25 4 v7
        obtain ⟨k8, e8⟩ := hex_of x 30 6 v8
        rw [Bool.eq_false_iff] at hq
        apply hq
        rw [k0, k1, k2, k3, k4, k5, k6, k7, k8, e0, e1, e2, e3, e4, e5]
        simp only [Bool.true_and, decide_eq_true_eq]
        exact ⟨g1, g2, g3, g4, g5, g6, g7, g8⟩
    · refine (rd_sep b o cap x w hc hsep).mono ?_
      intro e w' hno
      refine Or.inr ⟨?_, hno⟩
      rw [Bool.eq_false_iff]
      intro hy
      unfold Cal.stampB Cal.timeB Cal.sepT at hy
      simp only [Bool.and_eq_true, decide_eq_true_eq] at hy
      omega
  · refine (rd_len p len cap w ht.bound (by rw [bne_iff_ne]; omega)).mono ?_
    intro e w' hno
    exact Or.inr ⟨by simp [hlen], hno⟩
end Go.Proofs.Qxb6613619aFmt
