/-
  THE WALK OF zzReadStamp.
-/
import Derived.Test.Qxb6613619aFmtLeaf2
import Derived.Deep.Light
namespace Go.Proofs.Qxb6613619aFmt
open Go.RowKit

theorem zzDec_v (b o cap i n : Nat) (f t : Int) (x : Nat → Int) (v : Int) (k : Bool) (w : World) (hf : f = (i : Int)) (htt : t = (i : Int) + (n : Int)) (hn : n ≤ 6) (hl : i + n ≤ 36) (hx : ∀ k, 0 ≤ x k ∧ x k ≤ 255)
    (hc : Hid (∀ k, k < 36 → w.cell? ⟨b, o + k, none⟩ = some (.int .u8 (x k)))) (hv : Hid ((Cal.decN x i n 0).getD 0 = v)) (hk : Hid ((Cal.decN x i n 0).isSome = k)) :
    Calls Tryf.prog 28 #[.slice (some ⟨b, o, none⟩) 36 cap, .int .i64 f, .int .i64 t] w fun e w' => e = .returned (.tuple #[.int .i64 v, .bool k]) ∧ w' = w := by
  rw [← hv.out, ← hk.out, hf, htt]
  exact zzDec_c b o 36 cap i n x w hn hl (by omega) hx hc.out
theorem zzHex_v (b o cap i n : Nat) (f t : Int) (x : Nat → Int) (v : Int) (k : Bool) (w : World) (hf : f = (i : Int)) (htt : t = (i : Int) + (n : Int)) (hn : n ≤ 6) (hl : i + n ≤ 36) (hx : ∀ k, 0 ≤ x k ∧ x k ≤ 255)
    (hc : Hid (∀ k, k < 36 → w.cell? ⟨b, o + k, none⟩ = some (.int .u8 (x k)))) (hv : Hid ((Cal.hexN x i n 0).getD 0 = v)) (hk : Hid ((Cal.hexN x i n 0).isSome = k)) :
    Calls Tryf.prog 29 #[.slice (some ⟨b, o, none⟩) 36 cap, .int .i64 f, .int .i64 t] w fun e w' => e = .returned (.tuple #[.int .i64 v, .bool k]) ∧ w' = w := by
  rw [← hv.out, ← hk.out, hf, htt]
  exact zzHex_c b o 36 cap i n x w hn hl (by omega) hx hc.out

def RdNo (w : World) (e : Ending) (w' : World) : Prop := e = .returned (.tuple #[.int .i64 0, .int .i64 0, .int .i64 0, .bool false]) ∧ w' = w

set_option maxRecDepth 100000 in
theorem rd_len (p : Option Addr) (len cap : Nat) (w : World) (_hlen : len ≤ 65536) (hne : ((len : Int) != 36) = true) : Calls Tryf.prog 20 #[.slice p len cap] w (RdNo w) := by
  go_enter Tryf.func20, Tryf.ntmps20
  go_wp2
  exact bodyPost_ret (v := .tuple #[.int .i64 0, .int .i64 0, .int .i64 0, .bool false]) (by simp [results, Tryf.results20, go_sem]) rfl ⟨rfl, rfl⟩

set_option maxRecDepth 100000 in
set_option maxHeartbeats 1000000 in
theorem rd_sep (b o cap : Nat) (x : Nat → Int) (w : World) (hc : ∀ k, k < 36 → w.cell? ⟨b, o + k, none⟩ = some (.int .u8 (x k)))
    (hsep : (x 4 = 45 ∧ x 7 = 45 ∧ x 10 = 84 ∧ x 13 = 58 ∧ x 16 = 58 ∧ x 19 = 46 ∧ x 23 = 90 ∧ x 24 = 45 ∧ x 29 = 45) → False) :
    Calls Tryf.prog 20 #[.slice (some ⟨b, o, none⟩) 36 cap] w (RdNo w) := by
  have c4 := hc 4 (by omega)
  have c7 := hc 7 (by omega)
  have c10 := hc 10 (by omega)
  have c13 := hc 13 (by omega)
  have c16 := hc 16 (by omega)
  have c19 := hc 19 (by omega)
  have c23 := hc 23 (by omega)
  have c24 := hc 24 (by omega)
  have c29 := hc 29 (by omega)
  clear hc
  have HS : Hid ((x 4 = 45 ∧ x 7 = 45 ∧ x 10 = 84 ∧ x 13 = 58 ∧ x 16 = 58 ∧ x 19 = 46 ∧ x 23 = 90 ∧ x 24 = 45 ∧ x 29 = 45) → False) := hsep
  clear hsep
  go_enter Tryf.func20, Tryf.ntmps20
  go_wp2_with fail
  all_goals first
    | exact bodyPost_ret (v := .tuple #[.int .i64 0, .int .i64 0, .int .i64 0, .bool false]) (by simp [results, Tryf.results20, go_sem]) rfl ⟨rfl, rfl⟩
    | (exfalso; go_light; exact HS.out ⟨by assumption, by assumption, by assumption, by assumption, by assumption, by assumption, by assumption, by assumption, by simpa using ‹(x 29 != 45) = false›⟩)
end Go.Proofs.Qxb6613619aFmt
