/-
  DERIVED. GIVEN WITH THE SEED: THE CARDS: each row of Qxb6613712aDoorRows.lean that lists a variable, with what it lists TIED to the program's text (the seventh form; the later family's looks); each row that meets fmt, with fmt's text TOLD by the authors' own Lean function (tested against real Go, not proved from fmt's source: count such statements apart). THE CARD IS WHAT COUNTS. Prove the row's statement (the work); the ties are given (Qxb6613712aDoorTie.lean); close each card by the builder's one call (the guide's Derived/Test/ToyasCard.lean, 'card_holds'). Laid BY PROGRAM, IN A SANDBOX (cutbox-door.mjs). By AI agents, Wed Nov 11 2026. No macro, syntax, notation, axiom, sorry.
-/
import Derived.Test.Qxb6613712aDoorRows
import GoSem.ClaimSeven
namespace Go.Proofs.Qxb6613712aDoor
namespace Rows

/-- THE TIED CARD OF 'zzlaws_account_b1.FnIsRoleAgreesWithAtLeastMember'. -/
def fnIsRoleAgreesWithAtLeastMemberCard : Claim7 := { stood := { row := fnIsRoleAgreesWithAtLeastMemberRow, standIns := [], harness := (true, "17663531ef04db26f28e826d0915029b8712cfab8ee8aba353379b1943ec9251"), looks := false }, kinds := [], alts := [], laidByText := true, laidKinds := [.mapped], laidTests := true, laidLooks := .later }
def FnIsRoleAgreesWithAtLeastMemberCardSaid : Prop := Claim7.holds Tryd.pinned (.plain (OpenSpec.ofChange fnIsRoleAgreesWithAtLeastMemberSpec)) fnIsRoleAgreesWithAtLeastMemberCard

/-- THE TIED CARD OF 'zzlaws_account_b1.FnIsRoleRanksDistinctAndTotal'. -/
def fnIsRoleRanksDistinctAndTotalCard : Claim7 := { stood := { row := fnIsRoleRanksDistinctAndTotalRow, standIns := [], harness := (true, "17663531ef04db26f28e826d0915029b8712cfab8ee8aba353379b1943ec9251"), looks := false }, kinds := [], alts := [], laidByText := true, laidKinds := [.mapped], laidTests := true, laidLooks := .later }
def FnIsRoleRanksDistinctAndTotalCardSaid : Prop := Claim7.holds Tryd.pinned (.plain (OpenSpec.ofChange fnIsRoleRanksDistinctAndTotalSpec)) fnIsRoleRanksDistinctAndTotalCard

/-- THE TIED CARD OF 'zzlaws_account_b1.FnSystemAdminOnlyInTheSystemGroup'. -/
def fnSystemAdminOnlyInTheSystemGroupCard : Claim7 := { stood := { row := fnSystemAdminOnlyInTheSystemGroupRow, standIns := [], harness := (true, "17663531ef04db26f28e826d0915029b8712cfab8ee8aba353379b1943ec9251"), looks := false }, kinds := [], alts := [], laidByText := true, laidKinds := [.mapped], laidTests := true, laidLooks := .later }
def FnSystemAdminOnlyInTheSystemGroupCardSaid : Prop := Claim7.holds Tryd.pinned (.plain (OpenSpec.ofChange fnSystemAdminOnlyInTheSystemGroupSpec)) fnSystemAdminOnlyInTheSystemGroupCard

/-- THE TIED CARD OF 'zzlaws_account_b1.FnSystemAdminMonotoneInRank'. -/
def fnSystemAdminMonotoneInRankCard : Claim7 := { stood := { row := fnSystemAdminMonotoneInRankRow, standIns := [], harness := (true, "17663531ef04db26f28e826d0915029b8712cfab8ee8aba353379b1943ec9251"), looks := false }, kinds := [], alts := [], laidByText := true, laidKinds := [.mapped], laidTests := true, laidLooks := .later }
def FnSystemAdminMonotoneInRankCardSaid : Prop := Claim7.holds Tryd.pinned (.plain (OpenSpec.ofChange fnSystemAdminMonotoneInRankSpec)) fnSystemAdminMonotoneInRankCard
end Rows
end Go.Proofs.Qxb6613712aDoor
