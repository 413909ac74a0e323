/-
  THE WALKS OF THE LEAVES that read hexadecimal digits.
-/
import Derived.Test.Qxb6613619aFmtLeaf
namespace Go.Proofs.Qxb6613619aFmt
open Go.RowKit

theorem wraps_i64 (n : Int) (h₀ : 0 ≤ n) (h₁ : n < 2 ^ 63) : IntKind.i64.wrap n = n := by rw [IntKind.wrap_i64]; omega
/-- 'n<<4 | d'. -/
theorem or4 (v d : Int) (hv0 : 0 ≤ v) (hv1 : v ≤ 16777216) (hd0 : 0 ≤ d) (hd1 : d ≤ 15) : bits .or .i64 (v * 16) d = v * 16 + d :=
  bits_join .i64 63 (by decide) wraps_i64 4 _ _ (by omega) (by omega) (by omega) hd0 (by omega) (by omega)

theorem zzHex_c (b o len cap i n : Nat) (x : Nat → Int) (w : World) (hn : n ≤ 6) (hl : i + n ≤ len) (hlm : len ≤ 1048576) (hx : ∀ k, 0 ≤ x k ∧ x k ≤ 255)
    (hc : ∀ k, k < len → w.cell? ⟨b, o + k, none⟩ = some (.int .u8 (x k))) :
    Calls Tryf.prog 29 #[.slice (some ⟨b, o, none⟩) len cap, .int .i64 (i : Int), .int .i64 ((i : Int) + (n : Int))] w fun e w' => e = .returned (.tuple #[.int .i64 ((Cal.hexN x i n 0).getD 0), .bool (Cal.hexN x i n 0).isSome]) ∧ w' = w := by
  go_enter Tryf.func29, Tryf.ntmps29
  go_wp2
  go_loop [8, 9] (fun t j => ∃ (k : Nat) (v : Int), k ≤ n ∧ j = .int .i64 ((i : Int) + (k : Int)) ∧ t = .int .i64 v ∧ 0 ≤ v ∧ v < Cal.p16 k ∧ Hid (Cal.hexN x (i + k) (n - k) v = Cal.hexN x i n 0)) (fun _ j => i + n - (intOf j).toNat)
  case atStart => exact ⟨0, 0, Nat.zero_le _, rfl, rfl, by omega, by decide, by show _ = _; simp⟩
  case round =>
    obtain ⟨k, v, hk, rfl, rfl, hv0, hv1, HV⟩ := hrel
    have hp := Cal.p16_le k (by omega)
    by_cases hlt : k < n
    · have hcell := hc (i + k) (by omega)
      have hxb := hx (i + k)
      have HP : Hid (Cal.p16 (k + 1) = 16 * Cal.p16 k) := Cal.p16_succ k
      by_cases hd : 48 ≤ x (i + k) ∧ x (i + k) ≤ 57
      · have HD : Hid (Cal.hexN x (i + k) (n - k) v = _) := Cal.hexN_digit x i k n v hlt hd
        obtain ⟨hd1, hd2⟩ := hd
        go_wp2
        go_round
        case rel => exact ⟨k + 1, v * 16 + (x (i + k) - 48), by omega, by go_num, rfl, by omega, by rw [HP.out]; omega, by show _ = _; rw [← HD.out, HV.out]⟩
        case measure => simp [intOf]; omega
      by_cases he : 97 ≤ x (i + k) ∧ x (i + k) ≤ 102
      · have HD : Hid (Cal.hexN x (i + k) (n - k) v = _) := Cal.hexN_letter x i k n v hlt he
        obtain ⟨he1, he2⟩ := he
        go_wp2
        go_round
        case rel => exact ⟨k + 1, v * 16 + (x (i + k) - 97 + 10), by omega, by go_num, rfl, by omega, by rw [HP.out]; omega, by show _ = _; rw [← HD.out, HV.out]⟩
        case measure => simp [intOf]; omega
      · have HD : Hid (Cal.hexN x (i + k) (n - k) v = _) := Cal.hexN_other x i k n v hlt hd he
        have hd' : x (i + k) < 48 ∨ (57 < x (i + k) ∧ x (i + k) < 97) ∨ 102 < x (i + k) := by omega
        rcases hd' with hd' | ⟨hd', he'⟩ | hd'
        all_goals
          go_wp2
          go_ret2
          refine ⟨?_, rfl⟩
          rw [← HV.out, HD.out]; rfl
    · have HD : Hid (Cal.hexN x (i + k) (n - k) v = _) := Cal.hexN_end x i k n v (by omega)
      go_wp2
      go_ret2
      refine ⟨?_, rfl⟩
      rw [← HV.out, HD.out]; rfl

theorem readHex_c (b o n cap i : Nat) (x : Nat → Int) (w : World) (hn : n ≤ 6) (hx : ∀ k, 0 ≤ x k ∧ x k ≤ 255)
    (hc : ∀ k, k < n → w.cell? ⟨b, o + k, none⟩ = some (.int .u8 (x (i + k)))) :
    Calls Tryf.prog 35 #[.slice (some ⟨b, o, none⟩) n cap] w fun e w' => e = .returned (.int .i64 (Cal.hexV x i n)) ∧ w' = w := by
  go_enter Tryf.func35, Tryf.ntmps35
  go_wp2
  go_loop [3, 8] (fun t j => ∃ (k : Nat) (v : Int), k ≤ n ∧ j = .int .i64 k ∧ t = .int .i64 v ∧ 0 ≤ v ∧ v < Cal.p16 k ∧ Hid (Cal.hexN x (i + k) (n - k) v = Cal.hexN x i n 0)) (fun _ j => n - (intOf j).toNat)
  case atStart => exact ⟨0, 0, Nat.zero_le _, rfl, rfl, by omega, by decide, by show _ = _; simp⟩
  case round =>
    obtain ⟨k, v, hk, rfl, rfl, hv0, hv1, HV⟩ := hrel
    have hp := Cal.p16_le k (by omega)
    by_cases hlt : k < n
    · have hcell := hc k hlt
      have hxb := hx (i + k)
      have HP : Hid (Cal.p16 (k + 1) = 16 * Cal.p16 k) := Cal.p16_succ k
      by_cases hd : 48 ≤ x (i + k) ∧ x (i + k) ≤ 57
      · have HD : Hid (Cal.hexN x (i + k) (n - k) v = _) := Cal.hexN_digit x i k n v hlt hd
        obtain ⟨hd1, hd2⟩ := hd
        go_wp2
        go_round
        case rel => exact ⟨k + 1, v * 16 + (x (i + k) - 48), by omega, by go_num, by rw [or4 v _ (by omega) (by omega) (by omega) (by omega)], by omega, by rw [HP.out]; omega, by show _ = _; rw [← HD.out, HV.out]⟩
        case measure => simp [intOf]; omega
      by_cases he : 97 ≤ x (i + k) ∧ x (i + k) ≤ 102
      · have HD : Hid (Cal.hexN x (i + k) (n - k) v = _) := Cal.hexN_letter x i k n v hlt he
        obtain ⟨he1, he2⟩ := he
        go_wp2
        go_round
        case rel => exact ⟨k + 1, v * 16 + (x (i + k) - 97 + 10), by omega, by go_num, by rw [or4 v _ (by omega) (by omega) (by omega) (by omega)], by omega, by rw [HP.out]; omega, by show _ = _; rw [← HD.out, HV.out]⟩
        case measure => simp [intOf]; omega
      · have HD : Hid (Cal.hexN x (i + k) (n - k) v = _) := Cal.hexN_other x i k n v hlt hd he
        have hd' : x (i + k) < 48 ∨ (57 < x (i + k) ∧ x (i + k) < 97) ∨ 102 < x (i + k) := by omega
        rcases hd' with hd' | ⟨hd', he'⟩ | hd'
        all_goals
          go_wp2
          go_ret
          exact ⟨ret_int (by unfold Cal.hexV; rw [← HV.out, HD.out]; rfl), rfl⟩
    · have HD : Hid (Cal.hexN x (i + k) (n - k) v = _) := Cal.hexN_end x i k n v (by omega)
      go_wp2
      go_ret
      exact ⟨ret_int (by unfold Cal.hexV; rw [← HV.out, HD.out]; rfl), rfl⟩
end Go.Proofs.Qxb6613619aFmt
