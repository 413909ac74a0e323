/-
  THE ROWS' FRAME OF THIS SEAT: closed facts on the program, on the sentinels, on a slice of bytes that came in.
-/
import Derived.Test.Qxb6613619aFmtParse
import Derived.Test.Qxb6613619aFmtRows
import Derived.Test.Qxb6613619aFmtCards
import Derived.Test.Qxb6613619aFmtTie
import Derived.ProofKit
import Derived.OpenShut
import Derived.ShutString
import Derived.ChangeOld
import Derived.LaidMore
import Derived.SizedLaws
import Derived.WalkSmall
import Derived.Stop.JoinedAt
import Derived.Stop.JoinedTold
import Derived.Stop.LaidErr
import Derived.Deep.DeepWitnessRef
namespace Go.Proofs.Qxb6613619aFmt
open Go.ChangeShapes Go.WideShapes Go.ChangeAt Go.RowKit Go.Kit
open Go.Extern.Stop Go.Stop Go.Extern

theorem own : ownKnob Tryf.prog.godebug = none := by kernel_rfl
theorem laidOut : laidOutB Tryf.pinned.checked.prog = true := by kernel_rfl
theorem stops : Tryf.pinned.checked.prog.stops = ["fmt.errorf"] := by kernel_rfl
theorem stopKnobs : Tryf.pinned.checked.prog.stopKnobs = [] := by kernel_rfl
theorem quiet (os : Os) : Stop.quiet Tryf.pinned.checked.prog os := by
  intro k hk
  rw [stopKnobs] at hk
  cases hk
theorem star : "*" ++ "errors.errorString" = "*errors.errorString" := by decide
/-- The one row of that name. -/
theorem row75 (u : TypeId) (h : Tryf.prog.typeName? 3 u = some "*errors.errorString") : u = 75 :=
  typeName_ptr_named (nm := "errors.errorString") (by rw [star]; kernel_rfl) (by kernel_rfl) (by decide) u (by rw [star]; exact h)

/-- A slice of bytes that came in, as the walks ask it. -/
theorem textAt_of {H : Type} {enc : TypeId × Value → H} {W : World} {sp : Nat → Bool} {held : Bool} {a : Option Addr} {len cap : Nat} {d : DataW H} {ps : List MemPlace}
    (h : DataW.Trod enc Tryf.prog W 0 sp held 22 (.slice a len cap) d ps) : len ≤ maxLen ∧ (len ≤ 65536 → ∃ x, TextAt W a len cap x) := by
  obtain ⟨fuel, hf⟩ := h
  rcases open_ints Tryf.underlying22 Tryf.underlying5 (by kernel_rfl) hf with ⟨hcs, _⟩ | ⟨y, l, c, zs, hcs, _, hl, hm, hz, _, hcell, hwz⟩
  · simp [Value.cells] at hcs
    obtain ⟨rfl, rfl, rfl⟩ := hcs
    exact ⟨Nat.zero_le _, fun _ => ⟨fun _ => 0, fun _ => ⟨by omega, by omega⟩, by omega, by omega, Or.inl rfl⟩⟩
  · simp [Value.cells] at hcs
    obtain ⟨rfl, rfl, rfl⟩ := hcs
    refine ⟨Nat.le_trans hl hm, fun hb => ⟨fun k => zs.getD k 0, fun k => ?_, hb, hl, ?_⟩⟩
    · rcases Nat.lt_or_ge k zs.length with hk | hk
      · have hw := hwz (zs.getD k 0) (by rw [List.getD_eq_getElem?_getD, List.getElem?_eq_getElem hk]; exact List.getElem_mem hk)
        have e1 : IntKind.u8.min = 0 := rfl
        have e2 : IntKind.u8.max = 255 := rfl
        simp [Lit.wf, e1, e2] at hw
        simpa using hw
      · simp [List.getD_eq_getElem?_getD, List.getElem?_eq_none hk]
    · rcases Nat.eq_zero_or_pos len with h0 | h0
      · exact Or.inl h0
      · have hzl : len ≤ zs.length := by rw [hz]; split <;> omega
        obtain ⟨b, off, rfl, hc⟩ := ints_at hcell (by omega)
        exact Or.inr ⟨b, off, rfl, World.block_lt_of_cell? _ _ (hc 0 (by omega)), fun k hk => hc k (by omega)⟩
end Go.Proofs.Qxb6613619aFmt
