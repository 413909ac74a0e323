/-
  THE WALKS OF THE LEAVES: each Go function computes the plain function of Qxb6613619aFmtCal.lean.
-/
import Derived.Test.Qxb6613619aFmtProg
import Derived.Test.Qxb6613619aFmtCal
import Derived.WalkKit
import Derived.WalkSpells
import Derived.Deep.Light
namespace Go.Proofs.Qxb6613619aFmt
open Go.RowKit
open Go.Proofs (Tryf.prog)

theorem ret_int {k : IntKind} {a b : Int} (h : a = b) : Ending.returned (.int k a) = .returned (.int k b) := by rw [h]

theorem dfy_c (y : Int) (w : World) (h0 : 1 ≤ y) (h1 : y ≤ 10000) : Calls Tryf.prog 40 #[.int .i64 y] w fun e w' => e = .returned (.int .i64 (Cal.dfy y)) ∧ w' = w := by
  go_enter Tryf.func40, Tryf.ntmps40
  go_wp2
  go_ret
  exact ⟨ret_int (by unfold Cal.dfy; omega), rfl⟩

theorem dbm_c (m l : Int) (w : World) (h0 : 1 ≤ m) (h1 : m ≤ 13) (h2 : 0 ≤ l) (h3 : l ≤ 1) : Calls Tryf.prog 41 #[.int .i64 m, .int .i64 l] w fun e w' => e = .returned (.int .i64 (Cal.dbm m l)) ∧ w' = w := by
  by_cases a : m = 1
  · subst a
    go_enter Tryf.func41, Tryf.ntmps41
    go_wp2
    go_ret
    exact ⟨rfl, rfl⟩
  · by_cases b : m = 2
    · subst b
      go_enter Tryf.func41, Tryf.ntmps41
      go_wp2
      go_ret
      exact ⟨rfl, rfl⟩
    · have c : 3 ≤ m := by omega
      go_enter Tryf.func41, Tryf.ntmps41
      go_wp2
      go_ret
      exact ⟨ret_int (by unfold Cal.dbm; rw [if_neg a, if_neg b]), rfl⟩

theorem ret_bool {a b : Bool} (h : a = b) : Ending.returned (.bool a) = .returned (.bool b) := by rw [h]

theorem leap_c (y : Int) (w : World) (h0 : 0 ≤ y) (h1 : y ≤ 10000) : Calls Tryf.prog 30 #[.int .i64 y] w fun e w' => e = .returned (.bool (Cal.leapB y)) ∧ w' = w := by
  go_enter Tryf.func30, Tryf.ntmps30
  go_wp2
  all_goals (go_ret; exact ⟨ret_bool (by unfold Cal.leapB; simp [*]; try rfl), rfl⟩)

theorem mdays_c (m : Int) (l : Bool) (w : World) : Calls Tryf.prog 31 #[.int .i64 m, .bool l] w fun e w' => e = .returned (.int .i64 (Cal.mdays m l)) ∧ w' = w := by
  go_enter Tryf.func31, Tryf.ntmps31
  go_wp2
  all_goals (go_ret; refine ⟨ret_int ?_, rfl⟩; (simp only [beq_iff_eq, beq_eq_false_iff_ne, ne_eq] at *); go_light; unfold Cal.mdays; first | (rw [if_pos (by omega)]) | (rw [if_neg (by omega), if_pos (by omega)]) | (rw [if_neg (by omega), if_neg (by omega), if_pos (by omega), if_pos (by assumption)]) | (rw [if_neg (by omega), if_neg (by omega), if_pos (by omega), if_neg (by simp [*])]) | (rw [if_neg (by omega), if_neg (by omega), if_neg (by omega)]))

theorem readDec_c (b o n cap i : Nat) (x : Nat → Int) (w : World) (hn : n ≤ 6) (hx : ∀ k, 0 ≤ x k ∧ x k ≤ 255)
    (hc : ∀ k, k < n → w.cell? ⟨b, o + k, none⟩ = some (.int .u8 (x (i + k)))) :
    Calls Tryf.prog 39 #[.slice (some ⟨b, o, none⟩) n cap] w fun e w' => e = .returned (.int .i64 (Cal.decV x i n)) ∧ w' = w := by
  go_enter Tryf.func39, Tryf.ntmps39
  go_wp2
  go_loop [3, 8] (fun t j => ∃ (k : Nat) (v : Int), k ≤ n ∧ j = .int .i64 k ∧ t = .int .i64 v ∧ 0 ≤ v ∧ v < Cal.p10 k ∧ Hid (Cal.decN x (i + k) (n - k) v = Cal.decN x i n 0)) (fun _ j => n - (intOf j).toNat)
  case atStart => exact ⟨0, 0, Nat.zero_le _, rfl, rfl, by omega, by decide, by show _ = _; simp⟩
  case round =>
    obtain ⟨k, v, hk, rfl, rfl, hv0, hv1, HV⟩ := hrel
    have hp := Cal.p10_le k (by omega)
    by_cases hlt : k < n
    · have hcell := hc k hlt
      have hxb := hx (i + k)
      have hps := Cal.p10_succ k
      have HP : Hid (Cal.p10 (k + 1) = 10 * Cal.p10 k) := hps
      clear hps
      by_cases hd : 48 ≤ x (i + k) ∧ x (i + k) ≤ 57
      · have HD : Hid (Cal.decN x (i + k) (n - k) v = _) := Cal.decN_digit x i k n v hlt hd
        obtain ⟨hd1, hd2⟩ := hd
        go_wp2
        go_round
        case rel => exact ⟨k + 1, v * 10 + (x (i + k) - 48), by omega, by go_num, rfl, by omega, by rw [HP.out]; omega, by show _ = _; rw [← HD.out, HV.out]⟩
        case measure => simp [intOf]; omega
      · have HD : Hid (Cal.decN x (i + k) (n - k) v = _) := Cal.decN_other x i k n v hlt hd
        go_wp2
        go_ret
        exact ⟨ret_int (by unfold Cal.decV; rw [← HV.out, HD.out]; rfl), rfl⟩
    · have HD : Hid (Cal.decN x (i + k) (n - k) v = _) := Cal.decN_end x i k n v (by omega)
      go_wp2
      go_ret
      exact ⟨ret_int (by unfold Cal.decV; rw [← HV.out, HD.out]; rfl), rfl⟩

theorem zzDec_c (b o len cap i n : Nat) (x : Nat → Int) (w : World) (hn : n ≤ 6) (hl : i + n ≤ len) (hlm : len ≤ 1048576) (hx : ∀ k, 0 ≤ x k ∧ x k ≤ 255)
    (hc : ∀ k, k < len → w.cell? ⟨b, o + k, none⟩ = some (.int .u8 (x k))) :
    Calls Tryf.prog 28 #[.slice (some ⟨b, o, none⟩) len cap, .int .i64 (i : Int), .int .i64 ((i : Int) + (n : Int))] w fun e w' => e = .returned (.tuple #[.int .i64 ((Cal.decN x i n 0).getD 0), .bool (Cal.decN x i n 0).isSome]) ∧ w' = w := by
  go_enter Tryf.func28, Tryf.ntmps28
  go_wp2
  go_loop [8, 9] (fun t j => ∃ (k : Nat) (v : Int), k ≤ n ∧ j = .int .i64 ((i : Int) + (k : Int)) ∧ t = .int .i64 v ∧ 0 ≤ v ∧ v < Cal.p10 k ∧ Hid (Cal.decN x (i + k) (n - k) v = Cal.decN x i n 0)) (fun _ j => i + n - (intOf j).toNat)
  case atStart => exact ⟨0, 0, Nat.zero_le _, rfl, rfl, by omega, by decide, by show _ = _; simp⟩
  case round =>
    obtain ⟨k, v, hk, rfl, rfl, hv0, hv1, HV⟩ := hrel
    have hp := Cal.p10_le k (by omega)
    by_cases hlt : k < n
    · have hcell := hc (i + k) (by omega)
      have hxb := hx (i + k)
      have HP : Hid (Cal.p10 (k + 1) = 10 * Cal.p10 k) := Cal.p10_succ k
      by_cases hd : 48 ≤ x (i + k) ∧ x (i + k) ≤ 57
      · have HD : Hid (Cal.decN x (i + k) (n - k) v = _) := Cal.decN_digit x i k n v hlt hd
        obtain ⟨hd1, hd2⟩ := hd
        go_wp2
        go_round
        case rel => exact ⟨k + 1, v * 10 + (x (i + k) - 48), by omega, by go_num, rfl, by omega, by rw [HP.out]; omega, by show _ = _; rw [← HD.out, HV.out]⟩
        case measure => simp [intOf]; omega
      · have HD : Hid (Cal.decN x (i + k) (n - k) v = _) := Cal.decN_other x i k n v hlt hd
        have hd' : x (i + k) < 48 ∨ 57 < x (i + k) := by omega
        rcases hd' with hd' | hd'
        all_goals
          go_wp2
          go_ret2
          refine ⟨?_, rfl⟩
          rw [← HV.out, HD.out]; rfl
    · have HD : Hid (Cal.decN x (i + k) (n - k) v = _) := Cal.decN_end x i k n v (by omega)
      go_wp2
      go_ret2
      refine ⟨?_, rfl⟩
      rw [← HV.out, HD.out]; rfl
end Go.Proofs.Qxb6613619aFmt
