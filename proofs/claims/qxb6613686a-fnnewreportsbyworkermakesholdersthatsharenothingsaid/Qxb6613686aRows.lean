/-
  No cell of these rows narrows 'for every input' (looked for: loops, veiled, ifaces, maps, wideKeys, modest, calm, conditions, laid).
  DERIVED. THE GIVEN ROWS OF THIS SEAT. 5 by the template 'for every input the law returns true; each argument reads behind the call as it read before'; 0 by the template 'total and deterministic' (their statements: Qxb6613686aTotals.lean).
  GIVEN WITH THE SEED: the statements are not yours to turn. If you find one false, say at which input.
  Laid BY PROGRAM, IN A SANDBOX (cutbox-rows.mjs): the forced cells as the released guide's own fill.sh prints them over the translation b326bcdb3dd9b314… (all of the seat's roots in one cut). By AI agents, Wed Nov 11 2026. No macro, syntax, notation, axiom, sorry.
-/
import Derived.Test.Qxb6613686aChecked
import GoSem.Claim
import GoSem.ClaimJoined
import GoSem.ClaimMapViews
import Derived.JoinedTies
import Derived.KernelRfl
namespace Go.Proofs.Qxb6613686a
/- THE CELL 'sum', in the pinned program and in every row, IS THE sha256 OF THE DUMP (.gsa) THAT Qxb6613686aProg.lean LOADS. Nothing in Lean hashes anything: it is a label: what it is worth is what the hold of that sum in a sandbox is worth. -/
noncomputable def Try.pinned : Pinned := { name := "qxb6613686a", sum := "b326bcdb3dd9b3148f572e3ac7ac1006cbd63e2c0c850e82ba092f6c006ff188", checked := Try.checked }
namespace Rows
def none {H : Type} : Left H := { results := [], args := [] }

/-- 'zzlaws_pkg_record_b1.FnNewReportsByWorkerHoldsThatManyEmptyWorkers': WHATEVER THE INPUT: true; the input reads as it did. -/
def fnNewReportsByWorkerHoldsThatManyEmptyWorkersSpec : ChangeSpec := { name := "fnNewReportsByWorkerHoldsThatManyEmptyWorkers", fn := fun _ => fun
  | [d1, d2] => { results := [.lit (.bool true)], args := [d1, d2] }
  | _ => none }
def fnNewReportsByWorkerHoldsThatManyEmptyWorkersRow : OpenClaim := { program := "qxb6613686a", sum := "b326bcdb3dd9b3148f572e3ac7ac1006cbd63e2c0c850e82ba092f6c006ff188", func := "example.com/vestline/vestline/zzlaws_pkg_record_b1.FnNewReportsByWorkerHoldsThatManyEmptyWorkers", spec := "fnNewReportsByWorkerHoldsThatManyEmptyWorkers", named := ["encoding/binary.LittleEndian"], apart := false }
def FnNewReportsByWorkerHoldsThatManyEmptyWorkersSaid : Prop := fnNewReportsByWorkerHoldsThatManyEmptyWorkersRow.holds Try.pinned (OpenSpec.ofChange fnNewReportsByWorkerHoldsThatManyEmptyWorkersSpec)

/-- ITS FALSE NEIGHBOUR: 'it returns false'. Refute it at one input. -/
def fnNewReportsByWorkerHoldsThatManyEmptyWorkersWrong : ChangeSpec := { name := "fnNewReportsByWorkerHoldsThatManyEmptyWorkers", fn := fun _ => fun
  | [d1, d2] => { results := [.lit (.bool false)], args := [d1, d2] }
  | _ => none }
def FnNewReportsByWorkerHoldsThatManyEmptyWorkersWrongFalsely : Prop := fnNewReportsByWorkerHoldsThatManyEmptyWorkersRow.holds Try.pinned (OpenSpec.ofChange fnNewReportsByWorkerHoldsThatManyEmptyWorkersWrong)

/-- 'zzlaws_pkg_record_b1.FnNewReportsByWorkerMakesHoldersThatShareNothing': WHATEVER THE INPUT: true; the input reads as it did. -/
def fnNewReportsByWorkerMakesHoldersThatShareNothingSpec : ChangeSpec := { name := "fnNewReportsByWorkerMakesHoldersThatShareNothing", fn := fun _ => fun
  | [d1, d2, d3, d4, d5] => { results := [.lit (.bool true)], args := [d1, d2, d3, d4, d5] }
  | _ => none }
def fnNewReportsByWorkerMakesHoldersThatShareNothingRow : OpenClaim := { program := "qxb6613686a", sum := "b326bcdb3dd9b3148f572e3ac7ac1006cbd63e2c0c850e82ba092f6c006ff188", func := "example.com/vestline/vestline/zzlaws_pkg_record_b1.FnNewReportsByWorkerMakesHoldersThatShareNothing", spec := "fnNewReportsByWorkerMakesHoldersThatShareNothing", apart := false }
def FnNewReportsByWorkerMakesHoldersThatShareNothingSaid : Prop := fnNewReportsByWorkerMakesHoldersThatShareNothingRow.holds Try.pinned (OpenSpec.ofChange fnNewReportsByWorkerMakesHoldersThatShareNothingSpec)

/-- ITS FALSE NEIGHBOUR: 'it returns false'. Refute it at one input. -/
def fnNewReportsByWorkerMakesHoldersThatShareNothingWrong : ChangeSpec := { name := "fnNewReportsByWorkerMakesHoldersThatShareNothing", fn := fun _ => fun
  | [d1, d2, d3, d4, d5] => { results := [.lit (.bool false)], args := [d1, d2, d3, d4, d5] }
  | _ => none }
def FnNewReportsByWorkerMakesHoldersThatShareNothingWrongFalsely : Prop := fnNewReportsByWorkerMakesHoldersThatShareNothingRow.holds Try.pinned (OpenSpec.ofChange fnNewReportsByWorkerMakesHoldersThatShareNothingWrong)

/-- 'zzlaws_pkg_record_b1.FnEmployerPlacesEachIdAtItsFirstAppearance': WHATEVER THE INPUT: true; the input reads as it did. -/
def fnEmployerPlacesEachIdAtItsFirstAppearanceSpec : ChangeSpec := { name := "fnEmployerPlacesEachIdAtItsFirstAppearance", fn := fun _ => fun
  | [d1, d2] => { results := [.lit (.bool true)], args := [d1, d2] }
  | _ => none }
def fnEmployerPlacesEachIdAtItsFirstAppearanceRow : OpenClaim := { program := "qxb6613686a", sum := "b326bcdb3dd9b3148f572e3ac7ac1006cbd63e2c0c850e82ba092f6c006ff188", func := "example.com/vestline/vestline/zzlaws_pkg_record_b1.FnEmployerPlacesEachIdAtItsFirstAppearance", spec := "fnEmployerPlacesEachIdAtItsFirstAppearance", apart := false }
def FnEmployerPlacesEachIdAtItsFirstAppearanceSaid : Prop := fnEmployerPlacesEachIdAtItsFirstAppearanceRow.holds Try.pinned (OpenSpec.ofChange fnEmployerPlacesEachIdAtItsFirstAppearanceSpec)

/-- ITS FALSE NEIGHBOUR: 'it returns false'. Refute it at one input. -/
def fnEmployerPlacesEachIdAtItsFirstAppearanceWrong : ChangeSpec := { name := "fnEmployerPlacesEachIdAtItsFirstAppearance", fn := fun _ => fun
  | [d1, d2] => { results := [.lit (.bool false)], args := [d1, d2] }
  | _ => none }
def FnEmployerPlacesEachIdAtItsFirstAppearanceWrongFalsely : Prop := fnEmployerPlacesEachIdAtItsFirstAppearanceRow.holds Try.pinned (OpenSpec.ofChange fnEmployerPlacesEachIdAtItsFirstAppearanceWrong)

/-- 'zzlaws_pkg_record_b1.FnNewChunkCountsFromZeroTakingASlabPer8192': WHATEVER THE INPUT: true; the input reads as it did. -/
def fnNewChunkCountsFromZeroTakingASlabPer8192Spec : ChangeSpec := { name := "fnNewChunkCountsFromZeroTakingASlabPer8192", fn := fun _ => fun
  | [d1, d2] => { results := [.lit (.bool true)], args := [d1, d2] }
  | _ => none }
def fnNewChunkCountsFromZeroTakingASlabPer8192Row : OpenClaim := { program := "qxb6613686a", sum := "b326bcdb3dd9b3148f572e3ac7ac1006cbd63e2c0c850e82ba092f6c006ff188", func := "example.com/vestline/vestline/zzlaws_pkg_record_b1.FnNewChunkCountsFromZeroTakingASlabPer8192", spec := "fnNewChunkCountsFromZeroTakingASlabPer8192", apart := false }
def FnNewChunkCountsFromZeroTakingASlabPer8192Said : Prop := fnNewChunkCountsFromZeroTakingASlabPer8192Row.holds Try.pinned (OpenSpec.ofChange fnNewChunkCountsFromZeroTakingASlabPer8192Spec)

/-- ITS FALSE NEIGHBOUR: 'it returns false'. Refute it at one input. -/
def fnNewChunkCountsFromZeroTakingASlabPer8192Wrong : ChangeSpec := { name := "fnNewChunkCountsFromZeroTakingASlabPer8192", fn := fun _ => fun
  | [d1, d2] => { results := [.lit (.bool false)], args := [d1, d2] }
  | _ => none }
def FnNewChunkCountsFromZeroTakingASlabPer8192WrongFalsely : Prop := fnNewChunkCountsFromZeroTakingASlabPer8192Row.holds Try.pinned (OpenSpec.ofChange fnNewChunkCountsFromZeroTakingASlabPer8192Wrong)

/-- 'zzlaws_pkg_record_b1.FnNewChunkGivesEachChunkItsOwnFreshBytes': WHATEVER THE INPUT: true; the input reads as it did. -/
def fnNewChunkGivesEachChunkItsOwnFreshBytesSpec : ChangeSpec := { name := "fnNewChunkGivesEachChunkItsOwnFreshBytes", fn := fun _ => fun
  | [d1, d2] => { results := [.lit (.bool true)], args := [d1, d2] }
  | _ => none }
def fnNewChunkGivesEachChunkItsOwnFreshBytesRow : OpenClaim := { program := "qxb6613686a", sum := "b326bcdb3dd9b3148f572e3ac7ac1006cbd63e2c0c850e82ba092f6c006ff188", func := "example.com/vestline/vestline/zzlaws_pkg_record_b1.FnNewChunkGivesEachChunkItsOwnFreshBytes", spec := "fnNewChunkGivesEachChunkItsOwnFreshBytes", apart := false }
def FnNewChunkGivesEachChunkItsOwnFreshBytesSaid : Prop := fnNewChunkGivesEachChunkItsOwnFreshBytesRow.holds Try.pinned (OpenSpec.ofChange fnNewChunkGivesEachChunkItsOwnFreshBytesSpec)

/-- ITS FALSE NEIGHBOUR: 'it returns false'. Refute it at one input. -/
def fnNewChunkGivesEachChunkItsOwnFreshBytesWrong : ChangeSpec := { name := "fnNewChunkGivesEachChunkItsOwnFreshBytes", fn := fun _ => fun
  | [d1, d2] => { results := [.lit (.bool false)], args := [d1, d2] }
  | _ => none }
def FnNewChunkGivesEachChunkItsOwnFreshBytesWrongFalsely : Prop := fnNewChunkGivesEachChunkItsOwnFreshBytesRow.holds Try.pinned (OpenSpec.ofChange fnNewChunkGivesEachChunkItsOwnFreshBytesWrong)

end Rows
end Go.Proofs.Qxb6613686a
