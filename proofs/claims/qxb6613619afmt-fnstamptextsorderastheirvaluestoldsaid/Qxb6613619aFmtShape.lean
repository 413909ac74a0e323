/-
  THE WALK OF checkShape: whatever the texts: nil or a new error; nothing old turns.
-/
import Derived.Test.Qxb6613619aFmtErrorf
import Derived.Deep.Light
namespace Go.Proofs.Qxb6613619aFmt
open Go.RowKit Go.Extern.Stop Go.Stop Go.Extern

def ShapeOut (w : World) (e : Ending) (w' : World) : Prop := (e = .returned .nilIface ∨ ∃ a, e = .returned (.iface 68 (.pointer (some a)))) ∧ Below w.heap.size w w'

set_option linter.unusedVariables false in
set_option maxRecDepth 100000 in
set_option maxHeartbeats 1000000 in
theorem shape_len (F : Interp) (a : Addr) (s t sh sp : ByteArray) (w : World) (hF : F.answers w.tape) (hs : w.cell? a = some (.string s)) (ht : t.size ≤ maxLen) (hsh : sh.size ≤ maxLen)
    (hne : ((t.size : Int) != (sh.size : Int)) = true) :
    Calls Tryf.prog 36 #[.string t, .string sh, .string sp, .iface 75 (.pointer (some a))] w (ShapeOut w) := by
  unfold maxLen at ht hsh
  go_enter Tryf.func36, Tryf.ntmps36
  go_wp2_with fail
  refine (errorf_bytes_new F a s _ _ w hF hs).mono ?_
  rintro e w' ⟨⟨p, rfl⟩, hb⟩
  go_wp2
  go_ret
  exact ⟨Or.inr ⟨_, rfl⟩, hb⟩

set_option linter.unusedVariables false in
set_option maxRecDepth 100000 in
set_option maxHeartbeats 1000000 in
theorem shape_same (F : Interp) (a : Addr) (s t sh sp : ByteArray) (w : World) (hF : F.answers w.tape) (hs : w.cell? a = some (.string s)) (hsh : sh.size ≤ maxLen)
    (hst : t.size = sh.size) :
    Calls Tryf.prog 36 #[.string t, .string sh, .string sp, .iface 75 (.pointer (some a))] w (ShapeOut w) := by
  unfold maxLen at hsh
  have hne : ((t.size : Int) != (sh.size : Int)) = false := by simp [hst]
  have h1 : t.size ≤ sh.size := by omega
  have h2 : sh.size ≤ t.size := by omega
  clear hst
  have HF : Hid (F.answers w.tape) := hF
  clear hF
  go_enter Tryf.func36, Tryf.ntmps36
  go_wp2_with fail
  go_loop [28] (fun i => ∃ k : Nat, k ≤ sh.size ∧ i = .int .i64 k) (fun i => sh.size - (intOf i).toNat)
  case atStart => exact ⟨0, Nat.zero_le _, rfl⟩
  case round =>
    obtain ⟨k, hk, rfl⟩ := hrel
    by_cases hlt : k < sh.size
    · have hlt' : k < t.size := by omega
      go_wp2_with (go_at_call 37; refine (errorf_differs_new F a s _ _ w HF.out hs).mono ?_; rintro e w' ⟨⟨p, rfl⟩, hb⟩)
      all_goals first
        | (go_round; (case rel => exact ⟨k + 1, by omega, by go_num⟩); (case measure => simp [intOf]; omega))
        | (go_ret; exact ⟨Or.inr ⟨_, rfl⟩, hb⟩)
    · go_wp2
      go_ret
      exact ⟨Or.inl rfl, Below.refl _ _⟩

theorem shape_c (F : Interp) (a : Addr) (s t sh sp : ByteArray) (w : World) (hF : F.answers w.tape) (hs : w.cell? a = some (.string s)) (ht : t.size ≤ maxLen) (hsh : sh.size ≤ maxLen) :
    Calls Tryf.prog 36 #[.string t, .string sh, .string sp, .iface 75 (.pointer (some a))] w (ShapeOut w) := by
  by_cases h : t.size = sh.size
  · exact shape_same F a s t sh sp w hF hs hsh h
  · exact shape_len F a s t sh sp w hF hs ht hsh (by rw [bne_iff_ne]; omega)
end Go.Proofs.Qxb6613619aFmt
