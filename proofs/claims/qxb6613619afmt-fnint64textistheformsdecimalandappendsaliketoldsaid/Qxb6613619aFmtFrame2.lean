/-
  THE ROWS' FRAME FOR THE LAWS ON THE 64-BIT FORM: closed facts on the program, on the sentinel, on the table of powers of ten.
-/
import Derived.Test.Qxb6613619aFmtApp
import Derived.Test.Qxb6613619aFmtRows
import Derived.Test.Qxb6613619aFmtCards
import Derived.Test.Qxb6613619aFmtTie
import Derived.ProofKit
import Derived.OpenShut
import Derived.ShutString
import Derived.ChangeOld
import Derived.LaidMore
import Derived.SizedLaws
import Derived.WalkSmall
import Derived.Stop.JoinedAt
import Derived.Stop.JoinedTold
import Derived.Stop.LaidErr
import Derived.Deep.DeepWitnessRef
import Derived.Lib.LaidTab
namespace Go.Proofs.Qxb6613619aFmt.N64
open Go.ChangeShapes Go.WideShapes Go.ChangeAt Go.RowKit Go.Kit
open Go.Extern.Stop Go.Stop Go.Extern

theorem own : ownKnob Tryf.prog.godebug = none := by kernel_rfl
theorem laidOut : laidOutB Tryf.pinned.checked.prog = true := by kernel_rfl
theorem stops : Tryf.pinned.checked.prog.stops = ["fmt.errorf"] := by kernel_rfl
theorem stopKnobs : Tryf.pinned.checked.prog.stopKnobs = [] := by kernel_rfl
theorem quiet (os : Os) : Stop.quiet Tryf.pinned.checked.prog os := by
  intro k hk
  rw [stopKnobs] at hk
  cases hk
theorem star : "*" ++ "errors.errorString" = "*errors.errorString" := by decide
/-- The one row of that name. -/
theorem row75 (u : TypeId) (h : Tryf.prog.typeName? 3 u = some "*errors.errorString") : u = 75 :=
  typeName_ptr_named (nm := "errors.errorString") (by rw [star]; kernel_rfl) (by kernel_rfl) (by decide) u (by rw [star]; exact h)

theorem powData : (Rows.laid_internal_strconv_uint64pow10 : DataW Unit) = Lib.tabData .u64 Lib.pow10Tab := by kernel_rfl

/-- What 'laid' gives: the table, the sentinel. -/
theorem of_laid {W : World} (h : laidMetH Tryf.prog Rows.fnInt64TextsOrderAsTheirValuesRow.laid W) :
    PowTab W ∧ ∃ a s, W.var? Tryf.prog (Rows.fnInt64TextsOrderAsTheirValuesSpec.vars.getD 0 Tryf.f3.name) = some #[.iface 75 (.pointer (some a))] ∧ Sent0 W a s := by
  rw [MakeChecks.laidMetH_plain _ _ _ (by kernel_rfl)] at h
  have h2 := h.tail.tail
  obtain ⟨a, s, hv, hc, _, _⟩ := laid_sentinel (g := 0) h2.tail (by kernel_rfl) (by kernel_rfl) Tryf.underlying28 row75 Tryf.underlying75 Tryf.underlying77 rfl rfl Tryf.underlying9 (by kernel_rfl) (by kernel_rfl)
  refine ⟨?_, a, s, hv, by simpa using World.var?_cell (by kernel_rfl) hv 0, hc⟩
  rw [powData] at h2
  exact Lib.tabIs_of_head (g := 2) (by kernel_rfl) (by kernel_rfl) Tryf.underlying80 Tryf.underlying50 (by kernel_rfl) (by kernel_rfl) h2
end Go.Proofs.Qxb6613619aFmt.N64
