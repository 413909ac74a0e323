/-
  THE WALKS OF zzDecimal, zzDecodes64, zzCmpDecimalText.
-/
import Derived.Test.Qxb6613619aFmtApp
import Derived.Test.Qxb6613619aFmtCmp
namespace Go.Proofs.Qxb6613619aFmt
open Go.RowKit
open Go.Lib (nDigits)

theorem p10_le18 (k : Nat) (h : k ≤ 18) : Cal.p10 k ≤ 1000000000000000000 := by
  have : ∀ k : Fin 19, Cal.p10 k.val ≤ 1000000000000000000 := by decide
  exact this ⟨k, by omega⟩

set_option maxRecDepth 100000 in
set_option maxHeartbeats 1000000 in
theorem dec_c (b o n cap : Nat) (x : Nat → Int) (u : Int) (w : World) (h1 : 1 ≤ n) (h19 : n ≤ 19) (hc : Hid (∀ k, k < n → w.cell? ⟨b, o + k, none⟩ = some (.int .u8 (x k))))
    (hu : Hid (Cal.decN x 0 n 0 = some u)) (hle : u ≤ 9223372036854775807) (hlead : Hid (1 < n → x 0 ≠ 48)) :
    Calls Tryf.prog 13 #[.slice (some ⟨b, o, none⟩) n cap] w fun e w' => e = .returned (.tuple #[.int .i64 u, .bool true]) ∧ w' = w := by
  have c0 := hc.out 0 (by omega)
  have hdig := Cal.digits_of x n 0 0 u hu.out
  have HDG : Hid (∀ k, k < n → 48 ≤ x (0 + k) ∧ x (0 + k) ≤ 57) := hdig
  clear hdig
  have hn0 : ((n : Int) == 0) = false := by rw [beq_eq_false_iff_ne]; omega
  have hp : (0 : Int) < (n : Int) := by omega
  have hz : (x 0 == 48) = false ∨ ((x 0 == 48) = true ∧ n ≤ 1) := by
    by_cases g : x 0 = 48
    · refine Or.inr ⟨by rw [beq_iff_eq]; exact g, ?_⟩
      by_cases q : 1 < n
      · exact absurd g (hlead.out q)
      · omega
    · left; rw [beq_eq_false_iff_ne]; exact g
  have c0' : w.cell? ⟨b, o, none⟩ = some (.int .u8 (x 0)) := c0
  clear c0
  rcases hz with hz | ⟨hz, h1n⟩
  all_goals
    go_enter Tryf.func13, Tryf.ntmps13
    go_wp2_with fail
    go_loop [4, 5] (fun t j => ∃ (k : Nat) (v : Int), k ≤ n ∧ j = .int .i64 k ∧ t = .int .u64 v ∧ 0 ≤ v ∧ v < Cal.p10 k ∧ Hid (Cal.decN x k (n - k) v = some u)) (fun _ j => n - (intOf j).toNat)
    case atStart => exact ⟨0, 0, Nat.zero_le _, rfl, rfl, by omega, by decide, hu⟩
    case round =>
      obtain ⟨k, v, hk, rfl, rfl, hv0, hv1, HV⟩ := hrel
      by_cases hlt : k < n
      · have hcell := hc.out k hlt
        have hd := HDG.out k hlt
        have HDd : Hid (48 ≤ x (0 + k) ∧ x (0 + k) ≤ 57) := hd
        rw [Nat.zero_add] at hd
        obtain ⟨hd1, hd2⟩ := hd
        have hp10 := p10_le18 k (by omega)
        have HP : Hid (Cal.p10 (k + 1) = 10 * Cal.p10 k) := Cal.p10_succ k
        have HD : Hid (Cal.decN x k (n - k) v = Cal.decN x (k + 1) (n - (k + 1)) (v * 10 + (x k - 48))) := by
          have := Cal.decN_digit x 0 k n v hlt HDd.out
          simp only [Nat.zero_add] at this
          exact this
        go_wp2
        go_round
        case rel => exact ⟨k + 1, v * 10 + (x k - 48), by omega, by go_num, rfl, by omega, by rw [HP.out]; omega, by show _ = _; rw [← HV.out, HD.out]⟩
        case measure => simp [intOf]; omega
      · have HD : Hid (Cal.decN x k (n - k) v = some v) := by
          have := Cal.decN_end x 0 k n v (by omega)
          simp only [Nat.zero_add] at this
          exact this
        obtain rfl : v = u := by have := HV.out; rw [HD.out] at this; exact Option.some.inj this
        go_wp2
        go_ret2
        exact ⟨rfl, rfl⟩

theorem and4095 (x : Int) (h0 : 0 ≤ x) (h1 : x ≤ 9223372036854775807) : bits .and .i64 x 4095 = x % 4096 := bits_mask .i64 63 (by decide) wraps63 12 (by decide) x h0 (by omega)
theorem and1023 (x : Int) (h0 : 0 ≤ x) (h1 : x ≤ 9223372036854775807) : bits .and .i64 x 1023 = x % 1024 := bits_mask .i64 63 (by decide) wraps63 10 (by decide) x h0 (by omega)

theorem decodes_c (f ms c n : Int) (w : World) (h : Held ms c n) (hf : Hid (form64 ms c n = f)) : Calls Tryf.prog 14 #[.int .i64 f, .int .i64 ms, .int .i64 c, .int .i64 n] w fun e w' => e = .returned (.bool true) ∧ w' = w := by
  have hb := form64_bd ms c n h
  rw [hf.out] at hb
  obtain ⟨h1, h2, h3, h4, h5, h6⟩ := h
  have e := hf.out
  unfold form64 at e
  have e1 : f / 4194304 = ms - 1735689600000 := by omega
  have e2 : bits .and .i64 (f / 1024) 4095 = c := by rw [and4095 _ (by omega) (by omega)]; omega
  have e3 : bits .and .i64 f 1023 = n := by rw [and1023 _ (by omega) (by omega)]; omega
  clear e
  go_enter Tryf.func14, Tryf.ntmps14
  go_wp2
  go_ret
  exact ⟨rfl, rfl⟩

/-- zzCmpDecimalText: the shorter first, then from the left. -/
theorem cmpDec_c (b1 o1 c1 b2 o2 c2 n1 n2 : Nat) (x y : Nat → Int) (w : World) (h1 : n1 ≤ 19) (h2 : n2 ≤ 19) (hx : Hid (∀ k, k < n1 → w.cell? ⟨b1, o1 + k, none⟩ = some (.int .u8 (x k)))) (hy : Hid (∀ k, k < n2 → w.cell? ⟨b2, o2 + k, none⟩ = some (.int .u8 (y k)))) :
    Calls Tryf.prog 16 #[.slice (some ⟨b1, o1, none⟩) n1 c1, .slice (some ⟨b2, o2, none⟩) n2 c2] w fun e w' => e = .returned (.int .i64 (Cal.ch (Cal.sgn n1 n2) (if n1 = n2 then Cal.lex x y 0 n1 else 0))) ∧ ∃ m, w' = w.drewN m := by
  rcases Nat.lt_trichotomy n1 n2 with h | h | h
  · go_enter Tryf.func16, Tryf.ntmps16
    go_wp2
    go_ret
    exact ⟨ret_eq (by rw [Cal.sgn_lt (by omega), Cal.ch_neg]), 0, rfl⟩
  · subst h
    rw [if_pos rfl, Cal.sgn_self, Cal.ch_zero]
    go_enter Tryf.func16, Tryf.ntmps16
    go_wp2_with fail
    refine (cmp_c b1 o1 c1 b2 o2 c2 n1 x y w (by omega) hx hy).mono ?_
    rintro e w' ⟨rfl, m, rfl⟩
    go_wp2
    go_ret
    exact ⟨rfl, m, rfl⟩
  · go_enter Tryf.func16, Tryf.ntmps16
    go_wp2
    go_ret
    exact ⟨ret_eq (by rw [Cal.sgn_gt (by omega), Cal.ch_one]), 0, rfl⟩
end Go.Proofs.Qxb6613619aFmt
