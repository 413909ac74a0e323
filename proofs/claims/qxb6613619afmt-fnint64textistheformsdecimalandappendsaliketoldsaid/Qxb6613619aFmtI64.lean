/-
  THE WALKS OF THE 64-BIT FORM: zzHeld64, cannotHold, Value.Int64.
-/
import Derived.Test.Qxb6613619aFmtErrorf
import Derived.Deep.Light
namespace Go.Proofs.Qxb6613619aFmt
open Go.RowKit Go.Extern.Stop Go.Stop Go.Extern

def Held (ms c n : Int) : Prop := 1735689600000 ≤ ms ∧ ms ≤ 3934712855551 ∧ 0 ≤ c ∧ c ≤ 4095 ∧ 0 ≤ n ∧ n ≤ 1023
/-- The ways in which a value is not held. -/
theorem not_held {ms c n : Int} (h : ¬ Held ms c n) : ms < 1735689600000 ∨ (1735689600000 ≤ ms ∧ 3934712855551 < ms) ∨ (1735689600000 ≤ ms ∧ ms ≤ 3934712855551 ∧ c < 0) ∨ (1735689600000 ≤ ms ∧ ms ≤ 3934712855551 ∧ 0 ≤ c ∧ 4095 < c) ∨
    (1735689600000 ≤ ms ∧ ms ≤ 3934712855551 ∧ 0 ≤ c ∧ c ≤ 4095 ∧ n < 0) ∨ (1735689600000 ≤ ms ∧ ms ≤ 3934712855551 ∧ 0 ≤ c ∧ c ≤ 4095 ∧ 0 ≤ n ∧ 1023 < n) := by
  unfold Held at h; omega

theorem held_yes (ms c n : Int) (w : World) (h : Held ms c n) : Calls Tryf.prog 11 #[.int .i64 ms, .int .i64 c, .int .i64 n] w fun e w' => e = .returned (.bool true) ∧ w' = w := by
  obtain ⟨h1, h2, h3, h4, h5, h6⟩ := h
  go_enter Tryf.func11, Tryf.ntmps11
  go_wp2
  go_ret
  exact ⟨rfl, rfl⟩
theorem held_no (ms c n : Int) (w : World) (h : ¬ Held ms c n) : Calls Tryf.prog 11 #[.int .i64 ms, .int .i64 c, .int .i64 n] w fun e w' => e = .returned (.bool false) ∧ w' = w := by
  rcases not_held h with h1 | ⟨h1, h2⟩ | ⟨h1, h2, h3⟩ | ⟨h1, h2, h3, h4⟩ | ⟨h1, h2, h3, h4, h5⟩ | ⟨h1, h2, h3, h4, h5, h6⟩
  all_goals
    clear h
    go_enter Tryf.func11, Tryf.ntmps11
    go_wp2
    go_ret
    first
      | exact ⟨rfl, rfl⟩
      | exact ⟨congrArg (fun b => Ending.returned (.bool b)) (decide_eq_false (by omega)), rfl⟩

theorem cannot_c (F : Interp) (a : Addr) (s : ByteArray) (ms c n : Int) (w : World) (hF : F.answers w.tape) (hs : w.cell? a = some (.string s)) :
    Calls Tryf.prog 32 #[.iface 75 (.pointer (some a)), .agg #[.int .i64 ms, .int .i64 c, .int .i64 n]] w (ErrOut w) := by
  have HF : Hid (F.answers w.tape) := hF
  clear hF
  have hb0 := (Below.refl w.heap.size w).alloc (Nat.le_refl _) (.cells #[.int .i64 ms, .int .i64 c, .int .i64 n] 47)
  have hs0 : (w.alloc (.cells #[.int .i64 ms, .int .i64 c, .int .i64 n] 47)).cell? a = some (.string s) := by rw [hb0.cell (World.block_lt_of_cell? _ _ hs)]; exact hs
  go_enter Tryf.func32, Tryf.ntmps32
  go_wp2_with fail
  have he := errorf_hold_new F a s ms c n (w.alloc (.cells #[.int .i64 ms, .int .i64 c, .int .i64 n] 47)) HF.out hs0
  simp only [World.size_alloc] at he
  refine he.mono ?_
  rintro e w' ⟨⟨q, rfl⟩, hb⟩
  go_wp2
  go_ret
  exact ⟨⟨q, rfl⟩, hb0.trans (hb.mono (by simp))⟩

theorem wraps63 (n : Int) (h₀ : 0 ≤ n) (h₁ : n < 2 ^ 63) : IntKind.i64.wrap n = n := by rw [IntKind.wrap_i64]; omega
theorem or22 (T c : Int) (h0 : 0 ≤ T) (h1 : T ≤ 2199023255551) (c0 : 0 ≤ c) (c1 : c ≤ 4095) : bits .or .i64 (T * 4194304) (c * 1024) = T * 4194304 + c * 1024 :=
  bits_join .i64 63 (by decide) wraps63 22 _ _ (by omega) (by omega) (by omega) (by omega) (by omega) (by omega)
theorem or10 (T c n : Int) (h0 : 0 ≤ T) (h1 : T ≤ 2199023255551) (c0 : 0 ≤ c) (c1 : c ≤ 4095) (n0 : 0 ≤ n) (n1 : n ≤ 1023) : bits .or .i64 (T * 4194304 + c * 1024) n = T * 4194304 + c * 1024 + n :=
  bits_join .i64 63 (by decide) wraps63 10 _ _ (by omega) (by omega) (by omega) (by omega) (by omega) (by omega)

/-- The number of the 64-bit form. -/
def form64 (ms c n : Int) : Int := (ms - 1735689600000) * 4194304 + (c * 1024 + n)
theorem form64_bd (ms c n : Int) (h : Held ms c n) : 0 ≤ form64 ms c n ∧ form64 ms c n ≤ 9223372036854775807 := by
  unfold Held at h; unfold form64; omega

theorem int64_yes (ms c n : Int) (w : World) (h : Held ms c n) : Calls Tryf.prog 24 #[.agg #[.int .i64 ms, .int .i64 c, .int .i64 n]] w fun e w' => e = .returned (.tuple #[.int .i64 (form64 ms c n), .nilIface]) ∧ Below w.heap.size w w' := by
  obtain ⟨h1, h2, h3, h4, h5, h6⟩ := h
  have o1 := or22 (ms - 1735689600000) c (by omega) (by omega) h3 h4
  have o2 := or10 (ms - 1735689600000) c n (by omega) (by omega) h3 h4 h5 h6
  go_enter Tryf.func24, Tryf.ntmps24
  go_wp2
  go_ret2
  exact ⟨congrArg (fun x => Ending.returned (.tuple #[.int .i64 x, .nilIface])) (by unfold form64; omega), by go_grown⟩

/-- The ways in which a value is not held, said of the difference as Go reckons it. -/
theorem not_held_t {ms c n : Int} (b0 : -9223372036854775808 ≤ ms) (b1 : ms ≤ 9223372036854775807) (h : ¬ Held ms c n) : wrap64 (ms - 1735689600000) < 0 ∨ (0 ≤ wrap64 (ms - 1735689600000) ∧ 2199023255551 < wrap64 (ms - 1735689600000)) ∨
    (0 ≤ wrap64 (ms - 1735689600000) ∧ wrap64 (ms - 1735689600000) ≤ 2199023255551 ∧ c < 0) ∨ (0 ≤ wrap64 (ms - 1735689600000) ∧ wrap64 (ms - 1735689600000) ≤ 2199023255551 ∧ 0 ≤ c ∧ 4095 < c) ∨
    (0 ≤ wrap64 (ms - 1735689600000) ∧ wrap64 (ms - 1735689600000) ≤ 2199023255551 ∧ 0 ≤ c ∧ c ≤ 4095 ∧ n < 0) ∨ (0 ≤ wrap64 (ms - 1735689600000) ∧ wrap64 (ms - 1735689600000) ≤ 2199023255551 ∧ 0 ≤ c ∧ c ≤ 4095 ∧ 0 ≤ n ∧ 1023 < n) := by
  unfold Held at h; unfold wrap64; omega

def I64No (w : World) (e : Ending) (w' : World) : Prop := (∃ q, e = .returned (.tuple #[.int .i64 0, .iface 68 (.pointer (some q))])) ∧ Below w.heap.size w w'

set_option maxHeartbeats 1000000 in
theorem int64_no (F : Interp) (a : Addr) (s : ByteArray) (ms c n : Int) (w : World) (hF : F.answers w.tape) (hv : w.cell? ⟨0, 0, none⟩ = some (.iface 75 (.pointer (some a)))) (hs : w.cell? a = some (.string s)) (b0 : -9223372036854775808 ≤ ms) (b1 : ms ≤ 9223372036854775807) (h : ¬ Held ms c n) :
    Calls Tryf.prog 24 #[.agg #[.int .i64 ms, .int .i64 c, .int .i64 n]] w (I64No w) := by
  have HF : Hid (F.answers w.tape) := hF
  clear hF
  have h0 : 0 < w.heap.size := World.block_lt_of_cell? _ _ hv
  have hb0 := (Below.refl w.heap.size w).alloc (Nat.le_refl _) (.cells #[.int .i64 ms, .int .i64 c, .int .i64 n] 47)
  have hs0 : (w.alloc (.cells #[.int .i64 ms, .int .i64 c, .int .i64 n] 47)).cell? a = some (.string s) := by rw [hb0.cell (World.block_lt_of_cell? _ _ hs)]; exact hs
  have hn := not_held_t b0 b1 h
  clear h
  obtain ⟨t, ht⟩ : ∃ t, wrap64 (ms - 1735689600000) = t := ⟨_, rfl⟩
  rw [ht] at hn
  rcases hn with h1 | ⟨h1, h2⟩ | ⟨h1, h2, h3⟩ | ⟨h1, h2, h3, h4⟩ | ⟨h1, h2, h3, h4, h5⟩ | ⟨h1, h2, h3, h4, h5, h6⟩
  all_goals
    clear b0 b1
    go_enter Tryf.func24, Tryf.ntmps24
    go_wp2_with fail
    refine (cannot_c F a s ms c n _ (by exact HF.out) hs0).mono ?_
    rintro e w' ⟨⟨q, rfl⟩, hb⟩
    go_wp2
    go_ret2
    exact ⟨⟨q, rfl⟩, hb0.trans (hb.mono (by simp))⟩
end Go.Proofs.Qxb6613619aFmt
