/-
  DERIVED. GIVEN WITH THE SEED: THE CARDS: each row of Qxb6613619aFmtRows.lean that lists a variable, with what it lists TIED to the program's text (the seventh form; the later family's looks); each row that meets fmt, with fmt's text TOLD by the authors' own Lean function (tested against real Go, not proved from fmt's source: count such statements apart). THE CARD IS WHAT COUNTS. Prove the row's statement (the work); the ties are given (Qxb6613619aFmtTie.lean); close each card by the builder's one call (the guide's Derived/Test/ToyasCard.lean, 'card_holds'). Laid BY PROGRAM, IN A SANDBOX (cutbox-door.mjs). By AI agents, Wed Nov 11 2026. No macro, syntax, notation, axiom, sorry.
-/
import Derived.Test.Qxb6613619aFmtRows
import GoSem.ClaimSeven
namespace Go.Proofs.Qxb6613619aFmt
namespace Rows

/-- THE TOLD AND TIED CARD OF 'zzlaws_root_b1.FnInt64TextIsTheFormsDecimalAndAppendsAlike'. -/
def fnInt64TextIsTheFormsDecimalAndAppendsAlikeCard : Claim7 := { stood := { row := fnInt64TextIsTheFormsDecimalAndAppendsAlikeRow, standIns := [], harness := (true, "8281c9a23437885ee99a7c9e0812dffec03eb8fb4883a2104c163fded2da1508"), looks := false }, told := true, laidByText := true, laidKinds := [.data, .data, .data, .sentinel], laidTests := true, laidLooks := .later, goes := false }
def FnInt64TextIsTheFormsDecimalAndAppendsAlikeToldSaid : Prop := Claim7.holds Tryf.pinned (.plain (OpenSpec.ofChange fnInt64TextIsTheFormsDecimalAndAppendsAlikeSpec)) fnInt64TextIsTheFormsDecimalAndAppendsAlikeCard
/-- ITS FALSE NEIGHBOUR. Refute it at one input. -/
def FnInt64TextIsTheFormsDecimalAndAppendsAlikeToldWrongFalsely : Prop := Claim7.holds Tryf.pinned (.plain (OpenSpec.ofChange fnInt64TextIsTheFormsDecimalAndAppendsAlikeWrong)) fnInt64TextIsTheFormsDecimalAndAppendsAlikeCard

/-- THE TOLD AND TIED CARD OF 'zzlaws_root_b1.FnInt64TextsOrderAsTheirValues'. -/
def fnInt64TextsOrderAsTheirValuesCard : Claim7 := { stood := { row := fnInt64TextsOrderAsTheirValuesRow, standIns := [], harness := (true, "8281c9a23437885ee99a7c9e0812dffec03eb8fb4883a2104c163fded2da1508"), looks := false }, told := true, laidByText := true, laidKinds := [.data, .data, .data, .sentinel], laidTests := true, laidLooks := .later, goes := false }
def FnInt64TextsOrderAsTheirValuesToldSaid : Prop := Claim7.holds Tryf.pinned (.plain (OpenSpec.ofChange fnInt64TextsOrderAsTheirValuesSpec)) fnInt64TextsOrderAsTheirValuesCard
/-- ITS FALSE NEIGHBOUR. Refute it at one input. -/
def FnInt64TextsOrderAsTheirValuesToldWrongFalsely : Prop := Claim7.holds Tryf.pinned (.plain (OpenSpec.ofChange fnInt64TextsOrderAsTheirValuesWrong)) fnInt64TextsOrderAsTheirValuesCard

/-- THE TOLD AND TIED CARD OF 'zzlaws_root_b1.FnStampTextsOrderAsTheirValues'. -/
def fnStampTextsOrderAsTheirValuesCard : Claim7 := { stood := { row := fnStampTextsOrderAsTheirValuesRow, standIns := [], harness := (true, "8281c9a23437885ee99a7c9e0812dffec03eb8fb4883a2104c163fded2da1508"), looks := false }, told := true, laidByText := true, laidKinds := [.sentinel], laidTests := true, laidLooks := .later, goes := false }
def FnStampTextsOrderAsTheirValuesToldSaid : Prop := Claim7.holds Tryf.pinned (.plain (OpenSpec.ofChange fnStampTextsOrderAsTheirValuesSpec)) fnStampTextsOrderAsTheirValuesCard
/-- ITS FALSE NEIGHBOUR. Refute it at one input. -/
def FnStampTextsOrderAsTheirValuesToldWrongFalsely : Prop := Claim7.holds Tryf.pinned (.plain (OpenSpec.ofChange fnStampTextsOrderAsTheirValuesWrong)) fnStampTextsOrderAsTheirValuesCard

/-- THE TOLD AND TIED CARD OF 'zzlaws_root_b1.FnStampUnmarshalReplacesOrKeepsWhateverItHeld'. -/
def fnStampUnmarshalReplacesOrKeepsWhateverItHeldCard : Claim7 := { stood := { row := fnStampUnmarshalReplacesOrKeepsWhateverItHeldRow, standIns := [], harness := (true, "8281c9a23437885ee99a7c9e0812dffec03eb8fb4883a2104c163fded2da1508"), looks := false }, told := true, laidByText := true, laidKinds := [.sentinel], laidTests := true, laidLooks := .later, goes := false }
def FnStampUnmarshalReplacesOrKeepsWhateverItHeldToldSaid : Prop := Claim7.holds Tryf.pinned (.plain (OpenSpec.ofChange fnStampUnmarshalReplacesOrKeepsWhateverItHeldSpec)) fnStampUnmarshalReplacesOrKeepsWhateverItHeldCard
/-- ITS FALSE NEIGHBOUR. Refute it at one input. -/
def FnStampUnmarshalReplacesOrKeepsWhateverItHeldToldWrongFalsely : Prop := Claim7.holds Tryf.pinned (.plain (OpenSpec.ofChange fnStampUnmarshalReplacesOrKeepsWhateverItHeldWrong)) fnStampUnmarshalReplacesOrKeepsWhateverItHeldCard
end Rows
end Go.Proofs.Qxb6613619aFmt
