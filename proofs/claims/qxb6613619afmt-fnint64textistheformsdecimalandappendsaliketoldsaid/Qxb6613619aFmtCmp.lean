/-
  THE WALKS OF zzCmpBytes (two texts of one length) AND zzCmpValue.
-/
import Derived.Test.Qxb6613619aFmtProg
import Derived.Test.Qxb6613619aFmtOrd
import Derived.WalkKit
import Derived.WalkSpells
import Derived.Handy
import Derived.Deep.Light
import Derived.Deep.QuietTactic
import Derived.BigQuiet
namespace Go.Proofs.Qxb6613619aFmt
open Go.RowKit

theorem dN (w : World) (a b : Nat) : ∃ m, (w.drewN a).drewN b = w.drewN m := ⟨a + b, by simp⟩
theorem ret_eq {k : IntKind} {a b : Int} (h : a = b) : Ending.returned (.int k a) = .returned (.int k b) := by rw [h]
theorem lex_step (x y : Nat → Int) (k n : Nat) (h : k < n) : Cal.lex x y k (n - k) = if x k < y k then -1 else if y k < x k then 1 else Cal.lex x y (k + 1) (n - (k + 1)) := by
  have e : n - k = n - (k + 1) + 1 := by omega
  rw [e, Cal.lex]

set_option maxRecDepth 100000 in
set_option maxHeartbeats 1000000 in
theorem cmp_c (b1 o1 c1 b2 o2 c2 n : Nat) (x y : Nat → Int) (w : World) (hn : n ≤ 1048576) (hx : Hid (∀ k, k < n → w.cell? ⟨b1, o1 + k, none⟩ = some (.int .u8 (x k)))) (hy : Hid (∀ k, k < n → w.cell? ⟨b2, o2 + k, none⟩ = some (.int .u8 (y k)))) :
    Calls Tryf.prog 22 #[.slice (some ⟨b1, o1, none⟩) n c1, .slice (some ⟨b2, o2, none⟩) n c2] w fun e w' => e = .returned (.int .i64 (Cal.lex x y 0 n)) ∧ ∃ m, w' = w.drewN m := by
  go_enter Tryf.func22, Tryf.ntmps22
  go_wp2_with fail
  go_loopw [5] (fun i wr => ∃ k : Nat, k ≤ n ∧ i = .int .i64 k ∧ Hid (Cal.lex x y k (n - k) = Cal.lex x y 0 n) ∧ ∃ m, wr = w.drewN m) (fun i _ => n - (intOf i).toNat)
  case atStart => exact ⟨0, Nat.zero_le _, rfl, rfl, 0, rfl⟩
  case round =>
    obtain ⟨k, hk, rfl, HL, m, rfl⟩ := hrel
    by_cases hlt : k < n
    · have cx := hx.out k hlt
      have cy := hy.out k hlt
      have HS : Hid (Cal.lex x y k (n - k) = _) := lex_step x y k n hlt
      have i1 : (k : Int) < (n : Int) := by omega
      have i0 : (0 : Int) ≤ (k : Int) := by omega
      go_wp2_with fail
      go_quiet (fail)
      by_cases g1 : x k < y k
      · go_wp2
        go_ret
        exact ⟨ret_eq (by rw [← HL.out, HS.out, if_pos g1]), by first | exact dN _ _ _ | exact ⟨_, rfl⟩⟩
      · go_wp2_with fail
        go_quiet (fail)
        by_cases g2 : y k < x k
        · go_wp2
          go_ret
          exact ⟨ret_eq (by rw [← HL.out, HS.out, if_neg (by omega), if_pos g2]), by first | exact dN _ _ _ | exact ⟨_, rfl⟩⟩
        · go_wp2
          go_roundw
          case rel => exact ⟨k + 1, by omega, by go_num, (by show _ = _; rw [← HL.out, HS.out, if_neg (by omega), if_neg (by omega)]), by first | exact dN _ _ _ | exact ⟨_, rfl⟩⟩
          case measure => simp [intOf]; omega
    · have HE : Hid (Cal.lex x y k (n - k) = 0) := by show _ = _; rw [show n - k = 0 from by omega, Cal.lex]
      go_wp2
      go_ret
      exact ⟨ret_eq (by rw [← HL.out, HE.out]), by first | exact dN _ _ _ | exact ⟨_, rfl⟩⟩

theorem cmpv_c (a b c a' b' c' : Int) (w : World) : Calls Tryf.prog 17 #[.int .i64 a, .int .i64 b, .int .i64 c, .int .i64 a', .int .i64 b', .int .i64 c'] w fun e w' => e = .returned (.int .i64 (Cal.ch (Cal.sgn a a') (Cal.ch (Cal.sgn b b') (Cal.sgn c c')))) ∧ w' = w := by
  rcases Int.lt_trichotomy a a' with h | h | h
  · have n1 : (a != a') = true := by rw [bne_iff_ne]; omega
    go_enter Tryf.func17, Tryf.ntmps17
    go_wp2
    go_ret
    exact ⟨ret_eq (by rw [Cal.sgn_lt h, Cal.ch_neg]), rfl⟩
  · subst h
    rcases Int.lt_trichotomy b b' with h | h | h
    · have n1 : (b != b') = true := by rw [bne_iff_ne]; omega
      go_enter Tryf.func17, Tryf.ntmps17
      go_wp2
      go_ret
      exact ⟨ret_eq (by rw [Cal.sgn_self, Cal.ch_zero, Cal.sgn_lt h, Cal.ch_neg]), rfl⟩
    · subst h
      rcases Int.lt_trichotomy c c' with h | h | h
      · have n1 : (c != c') = true := by rw [bne_iff_ne]; omega
        go_enter Tryf.func17, Tryf.ntmps17
        go_wp2
        go_ret
        exact ⟨ret_eq (by rw [Cal.sgn_self, Cal.ch_zero, Cal.sgn_self, Cal.ch_zero, Cal.sgn_lt h]), rfl⟩
      · subst h
        go_enter Tryf.func17, Tryf.ntmps17
        go_wp2
        go_ret
        exact ⟨ret_eq (by rw [Cal.sgn_self, Cal.ch_zero, Cal.sgn_self, Cal.ch_zero, Cal.sgn_self]), rfl⟩
      · have n1 : (c != c') = true := by rw [bne_iff_ne]; omega
        have n2 : ¬ c < c' := by omega
        go_enter Tryf.func17, Tryf.ntmps17
        go_wp2
        go_ret
        exact ⟨ret_eq (by rw [Cal.sgn_self, Cal.ch_zero, Cal.sgn_self, Cal.ch_zero, Cal.sgn_gt h]), rfl⟩
    · have n1 : (b != b') = true := by rw [bne_iff_ne]; omega
      have n2 : ¬ b < b' := by omega
      go_enter Tryf.func17, Tryf.ntmps17
      go_wp2
      go_ret
      exact ⟨ret_eq (by rw [Cal.sgn_self, Cal.ch_zero, Cal.sgn_gt h, Cal.ch_one]), rfl⟩
  · have n1 : (a != a') = true := by rw [bne_iff_ne]; omega
    have n2 : ¬ a < a' := by omega
    go_enter Tryf.func17, Tryf.ntmps17
    go_wp2
    go_ret
    exact ⟨ret_eq (by rw [Cal.sgn_gt h, Cal.ch_one]), rfl⟩
end Go.Proofs.Qxb6613619aFmt
