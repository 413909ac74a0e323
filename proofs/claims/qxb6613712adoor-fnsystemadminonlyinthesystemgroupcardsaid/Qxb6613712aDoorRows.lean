/-
  NARROWER THAN 'FOR EVERY INPUT', by the rows' own cells (each row's printed sentence says how): FnIsRoleAgreesWithAtLeastMember: maps, laid · FnIsRoleRanksDistinctAndTotal: maps, laid · FnSystemAdminOnlyInTheSystemGroup: maps, laid · FnSystemAdminMonotoneInRank: maps, laid.
  DERIVED. THE GIVEN ROWS OF THIS SEAT. 4 by the template 'for every input the law returns true; each argument reads behind the call as it read before'; 0 by the template 'total and deterministic' (their statements: Qxb6613712aDoorTotals.lean).
  GIVEN WITH THE SEED: the statements are not yours to turn. If you find one false, say at which input.
  Laid BY PROGRAM, IN A SANDBOX (cutbox-rows.mjs): the forced cells as the released guide's own fill.sh prints them over the translation 07235c24dcc29966… (all of the seat's roots in one cut). By AI agents, Wed Nov 11 2026. No macro, syntax, notation, axiom, sorry.
-/
import Derived.Test.Qxb6613712aDoorChecked
import GoSem.Claim
import GoSem.ClaimJoined
import GoSem.ClaimMapViews
import Derived.JoinedTies
import Derived.KernelRfl
namespace Go.Proofs.Qxb6613712aDoor
/- THE CELL 'sum', in the pinned program and in every row, IS THE sha256 OF THE DUMP (.gsa) THAT Qxb6613712aDoorProg.lean LOADS. Nothing in Lean hashes anything: it is a label: what it is worth is what the hold of that sum in a sandbox is worth. -/
noncomputable def Tryd.pinned : Pinned := { name := "qxb6613712adoor", sum := "07235c24dcc29966d64d694a9457c55f72ba50c38e896022bf639319e8d6170a", checked := Tryd.checked }
namespace Rows
def none {H : Type} : Left H := { results := [], args := [] }

/- WHAT THE LISTED PACKAGE-LEVEL VARIABLES READ AS WHEN THE CALL BEGINS. Each datum BY PROGRAM (the guide's laid-datum.mjs) off the statement by which the dump's own 'gosem.cut.vars' lays the variable. In a bare row this is a premise. The card (Qxb6613712aDoorCards.lean) ties it to the program's text. -/
def laid_example_com_gorse_gorse_account_ranks {H : Type} : DataW H := .map [(.string [97, 100, 109, 105, 110], .lit (.int .i64 2)), (.string [109, 101, 109, 98, 101, 114], .lit (.int .i64 1)), (.string [111, 119, 110, 101, 114], .lit (.int .i64 3))]

/-- 'zzlaws_account_b1.FnIsRoleAgreesWithAtLeastMember': WHATEVER THE INPUT: true; the input reads as it did. -/
def fnIsRoleAgreesWithAtLeastMemberSpec : ChangeSpec := { name := "fnIsRoleAgreesWithAtLeastMember", vars := ["example.com/gorse/gorse/account.ranks"], fn := fun _ => fun
  | [d, g1] => { results := [.lit (.bool true)], args := [d], vars := [g1] }
  | _ => none }
def fnIsRoleAgreesWithAtLeastMemberRow : OpenClaim := { program := "qxb6613712adoor", sum := "07235c24dcc29966d64d694a9457c55f72ba50c38e896022bf639319e8d6170a", func := "example.com/gorse/gorse/zzlaws_account_b1.FnIsRoleAgreesWithAtLeastMember", spec := "fnIsRoleAgreesWithAtLeastMember", named := ["example.com/gorse/gorse/account.ranks"], maps := true, apart := false, laid := [("example.com/gorse/gorse/account.ranks", laid_example_com_gorse_gorse_account_ranks)] }
def FnIsRoleAgreesWithAtLeastMemberSaid : Prop := fnIsRoleAgreesWithAtLeastMemberRow.holds Tryd.pinned (OpenSpec.ofChange fnIsRoleAgreesWithAtLeastMemberSpec)

/-- ITS FALSE NEIGHBOUR: 'it returns false'. Refute it at one input. -/
def fnIsRoleAgreesWithAtLeastMemberWrong : ChangeSpec := { name := "fnIsRoleAgreesWithAtLeastMember", vars := ["example.com/gorse/gorse/account.ranks"], fn := fun _ => fun
  | [d, g1] => { results := [.lit (.bool false)], args := [d], vars := [g1] }
  | _ => none }
def FnIsRoleAgreesWithAtLeastMemberWrongFalsely : Prop := fnIsRoleAgreesWithAtLeastMemberRow.holds Tryd.pinned (OpenSpec.ofChange fnIsRoleAgreesWithAtLeastMemberWrong)

/-- 'zzlaws_account_b1.FnIsRoleRanksDistinctAndTotal': WHATEVER THE INPUT: true; the input reads as it did. -/
def fnIsRoleRanksDistinctAndTotalSpec : ChangeSpec := { name := "fnIsRoleRanksDistinctAndTotal", vars := ["example.com/gorse/gorse/account.ranks"], fn := fun _ => fun
  | [d1, d2, g1] => { results := [.lit (.bool true)], args := [d1, d2], vars := [g1] }
  | _ => none }
def fnIsRoleRanksDistinctAndTotalRow : OpenClaim := { program := "qxb6613712adoor", sum := "07235c24dcc29966d64d694a9457c55f72ba50c38e896022bf639319e8d6170a", func := "example.com/gorse/gorse/zzlaws_account_b1.FnIsRoleRanksDistinctAndTotal", spec := "fnIsRoleRanksDistinctAndTotal", named := ["example.com/gorse/gorse/account.ranks"], maps := true, apart := false, laid := [("example.com/gorse/gorse/account.ranks", laid_example_com_gorse_gorse_account_ranks)] }
def FnIsRoleRanksDistinctAndTotalSaid : Prop := fnIsRoleRanksDistinctAndTotalRow.holds Tryd.pinned (OpenSpec.ofChange fnIsRoleRanksDistinctAndTotalSpec)

/-- ITS FALSE NEIGHBOUR: 'it returns false'. Refute it at one input. -/
def fnIsRoleRanksDistinctAndTotalWrong : ChangeSpec := { name := "fnIsRoleRanksDistinctAndTotal", vars := ["example.com/gorse/gorse/account.ranks"], fn := fun _ => fun
  | [d1, d2, g1] => { results := [.lit (.bool false)], args := [d1, d2], vars := [g1] }
  | _ => none }
def FnIsRoleRanksDistinctAndTotalWrongFalsely : Prop := fnIsRoleRanksDistinctAndTotalRow.holds Tryd.pinned (OpenSpec.ofChange fnIsRoleRanksDistinctAndTotalWrong)

/-- 'zzlaws_account_b1.FnSystemAdminOnlyInTheSystemGroup': WHATEVER THE INPUT: true; the input reads as it did. -/
def fnSystemAdminOnlyInTheSystemGroupSpec : ChangeSpec := { name := "fnSystemAdminOnlyInTheSystemGroup", vars := ["example.com/gorse/gorse/account.ranks"], fn := fun _ => fun
  | [d1, d2, d3, g1] => { results := [.lit (.bool true)], args := [d1, d2, d3], vars := [g1] }
  | _ => none }
def fnSystemAdminOnlyInTheSystemGroupRow : OpenClaim := { program := "qxb6613712adoor", sum := "07235c24dcc29966d64d694a9457c55f72ba50c38e896022bf639319e8d6170a", func := "example.com/gorse/gorse/zzlaws_account_b1.FnSystemAdminOnlyInTheSystemGroup", spec := "fnSystemAdminOnlyInTheSystemGroup", named := ["example.com/gorse/gorse/account.ranks"], maps := true, apart := false, laid := [("example.com/gorse/gorse/account.ranks", laid_example_com_gorse_gorse_account_ranks)] }
def FnSystemAdminOnlyInTheSystemGroupSaid : Prop := fnSystemAdminOnlyInTheSystemGroupRow.holds Tryd.pinned (OpenSpec.ofChange fnSystemAdminOnlyInTheSystemGroupSpec)

/-- ITS FALSE NEIGHBOUR: 'it returns false'. Refute it at one input. -/
def fnSystemAdminOnlyInTheSystemGroupWrong : ChangeSpec := { name := "fnSystemAdminOnlyInTheSystemGroup", vars := ["example.com/gorse/gorse/account.ranks"], fn := fun _ => fun
  | [d1, d2, d3, g1] => { results := [.lit (.bool false)], args := [d1, d2, d3], vars := [g1] }
  | _ => none }
def FnSystemAdminOnlyInTheSystemGroupWrongFalsely : Prop := fnSystemAdminOnlyInTheSystemGroupRow.holds Tryd.pinned (OpenSpec.ofChange fnSystemAdminOnlyInTheSystemGroupWrong)

/-- 'zzlaws_account_b1.FnSystemAdminMonotoneInRank': WHATEVER THE INPUT: true; the input reads as it did. -/
def fnSystemAdminMonotoneInRankSpec : ChangeSpec := { name := "fnSystemAdminMonotoneInRank", vars := ["example.com/gorse/gorse/account.ranks"], fn := fun _ => fun
  | [d1, d2, d3, d4, g1] => { results := [.lit (.bool true)], args := [d1, d2, d3, d4], vars := [g1] }
  | _ => none }
def fnSystemAdminMonotoneInRankRow : OpenClaim := { program := "qxb6613712adoor", sum := "07235c24dcc29966d64d694a9457c55f72ba50c38e896022bf639319e8d6170a", func := "example.com/gorse/gorse/zzlaws_account_b1.FnSystemAdminMonotoneInRank", spec := "fnSystemAdminMonotoneInRank", named := ["example.com/gorse/gorse/account.ranks"], maps := true, apart := false, laid := [("example.com/gorse/gorse/account.ranks", laid_example_com_gorse_gorse_account_ranks)] }
def FnSystemAdminMonotoneInRankSaid : Prop := fnSystemAdminMonotoneInRankRow.holds Tryd.pinned (OpenSpec.ofChange fnSystemAdminMonotoneInRankSpec)

/-- ITS FALSE NEIGHBOUR: 'it returns false'. Refute it at one input. -/
def fnSystemAdminMonotoneInRankWrong : ChangeSpec := { name := "fnSystemAdminMonotoneInRank", vars := ["example.com/gorse/gorse/account.ranks"], fn := fun _ => fun
  | [d1, d2, d3, d4, g1] => { results := [.lit (.bool false)], args := [d1, d2, d3, d4], vars := [g1] }
  | _ => none }
def FnSystemAdminMonotoneInRankWrongFalsely : Prop := fnSystemAdminMonotoneInRankRow.holds Tryd.pinned (OpenSpec.ofChange fnSystemAdminMonotoneInRankWrong)

end Rows
end Go.Proofs.Qxb6613712aDoor
