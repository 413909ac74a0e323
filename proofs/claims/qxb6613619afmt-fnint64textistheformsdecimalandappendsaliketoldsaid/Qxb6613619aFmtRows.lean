/-
  NARROWER THAN 'FOR EVERY INPUT', by the rows' own cells (each row's printed sentence says how): FnInt64TextIsTheFormsDecimalAndAppendsAlike: ifaces, laid · FnInt64TextsOrderAsTheirValues: ifaces, laid · FnStampTextsOrderAsTheirValues: ifaces, laid · FnStampUnmarshalReplacesOrKeepsWhateverItHeld: ifaces, laid.
  DERIVED. THE GIVEN ROWS OF THIS SEAT. 4 by the template 'for every input the law returns true; each argument reads behind the call as it read before'; 0 by the template 'total and deterministic' (their statements: Qxb6613619aFmtTotals.lean).
  GIVEN WITH THE SEED: the statements are not yours to turn. If you find one false, say at which input.
  Laid BY PROGRAM, IN A SANDBOX (cutbox-rows.mjs): the forced cells as the released guide's own fill.sh prints them over the translation f4407c22c0c1245e… (all of the seat's roots in one cut). By AI agents, Wed Nov 11 2026. No macro, syntax, notation, axiom, sorry.
-/
import Derived.Test.Qxb6613619aFmtChecked
import GoSem.Claim
import GoSem.ClaimJoined
import GoSem.ClaimMapViews
import Derived.JoinedTies
import Derived.KernelRfl
namespace Go.Proofs.Qxb6613619aFmt
/- THE CELL 'sum', in the pinned program and in every row, IS THE sha256 OF THE DUMP (.gsa) THAT Qxb6613619aFmtProg.lean LOADS. Nothing in Lean hashes anything: it is a label: what it is worth is what the hold of that sum in a sandbox is worth. -/
noncomputable def Tryf.pinned : Pinned := { name := "qxb6613619afmt", sum := "f4407c22c0c1245e9a10db3e1d113bc8980f5a01b1e99256616c2850d6bdd7b3", checked := Tryf.checked }
namespace Rows
def none {H : Type} : Left H := { results := [], args := [] }

/- WHAT THE LISTED PACKAGE-LEVEL VARIABLES READ AS WHEN THE CALL BEGINS. Each datum BY PROGRAM (the guide's laid-datum.mjs) off the statement by which the dump's own 'gosem.cut.vars' lays the variable. In a bare row this is a premise. The card (Qxb6613619aFmtCards.lean) ties it to the program's text. -/
def laid_math_bits_deBruijn32tab {H : Type} : DataW H := .agg [.lit (.int .u8 0), .lit (.int .u8 1), .lit (.int .u8 28), .lit (.int .u8 2), .lit (.int .u8 29), .lit (.int .u8 14), .lit (.int .u8 24), .lit (.int .u8 3), .lit (.int .u8 30), .lit (.int .u8 22), .lit (.int .u8 20), .lit (.int .u8 15), .lit (.int .u8 25), .lit (.int .u8 17), .lit (.int .u8 4), .lit (.int .u8 8), .lit (.int .u8 31), .lit (.int .u8 27), .lit (.int .u8 13), .lit (.int .u8 23), .lit (.int .u8 21), .lit (.int .u8 19), .lit (.int .u8 16), .lit (.int .u8 7), .lit (.int .u8 26), .lit (.int .u8 12), .lit (.int .u8 18), .lit (.int .u8 6), .lit (.int .u8 11), .lit (.int .u8 5), .lit (.int .u8 10), .lit (.int .u8 9)]
def laid_math_bits_deBruijn64tab {H : Type} : DataW H := .agg [.lit (.int .u8 0), .lit (.int .u8 1), .lit (.int .u8 56), .lit (.int .u8 2), .lit (.int .u8 57), .lit (.int .u8 49), .lit (.int .u8 28), .lit (.int .u8 3), .lit (.int .u8 61), .lit (.int .u8 58), .lit (.int .u8 42), .lit (.int .u8 50), .lit (.int .u8 38), .lit (.int .u8 29), .lit (.int .u8 17), .lit (.int .u8 4), .lit (.int .u8 62), .lit (.int .u8 47), .lit (.int .u8 59), .lit (.int .u8 36), .lit (.int .u8 45), .lit (.int .u8 43), .lit (.int .u8 51), .lit (.int .u8 22), .lit (.int .u8 53), .lit (.int .u8 39), .lit (.int .u8 33), .lit (.int .u8 30), .lit (.int .u8 24), .lit (.int .u8 18), .lit (.int .u8 12), .lit (.int .u8 5), .lit (.int .u8 63), .lit (.int .u8 55), .lit (.int .u8 48), .lit (.int .u8 27), .lit (.int .u8 60), .lit (.int .u8 41), .lit (.int .u8 37), .lit (.int .u8 16), .lit (.int .u8 46), .lit (.int .u8 35), .lit (.int .u8 44), .lit (.int .u8 21), .lit (.int .u8 52), .lit (.int .u8 32), .lit (.int .u8 23), .lit (.int .u8 11), .lit (.int .u8 54), .lit (.int .u8 26), .lit (.int .u8 40), .lit (.int .u8 15), .lit (.int .u8 34), .lit (.int .u8 20), .lit (.int .u8 31), .lit (.int .u8 10), .lit (.int .u8 25), .lit (.int .u8 14), .lit (.int .u8 19), .lit (.int .u8 9), .lit (.int .u8 13), .lit (.int .u8 8), .lit (.int .u8 7), .lit (.int .u8 6)]
def laid_internal_strconv_uint64pow10 {H : Type} : DataW H := .agg [.lit (.int .u64 1), .lit (.int .u64 10), .lit (.int .u64 100), .lit (.int .u64 1000), .lit (.int .u64 10000), .lit (.int .u64 100000), .lit (.int .u64 1000000), .lit (.int .u64 10000000), .lit (.int .u64 100000000), .lit (.int .u64 1000000000), .lit (.int .u64 10000000000), .lit (.int .u64 100000000000), .lit (.int .u64 1000000000000), .lit (.int .u64 10000000000000), .lit (.int .u64 100000000000000), .lit (.int .u64 1000000000000000), .lit (.int .u64 10000000000000000), .lit (.int .u64 100000000000000000), .lit (.int .u64 1000000000000000000), .lit (.int .u64 10000000000000000000)]
def laid_example_com_monotide_monotide_ErrNotInt64 {H : Type} : DataW H := .iface "*errors.errorString" (.ptr (.agg [.lit (.string [110, 111, 116, 32, 97, 32, 118, 97, 108, 117, 101, 32, 105, 110, 32, 116, 104, 101, 32, 54, 52, 45, 98, 105, 116, 32, 102, 111, 114, 109])]))
def laid_example_com_monotide_monotide_ErrNotStamp {H : Type} : DataW H := .iface "*errors.errorString" (.ptr (.agg [.lit (.string [110, 111, 116, 32, 97, 32, 118, 97, 108, 117, 101, 32, 105, 110, 32, 116, 104, 101, 32, 116, 101, 120, 116, 45, 115, 116, 97, 109, 112, 32, 102, 111, 114, 109])]))

/-- 'zzlaws_root_b1.FnInt64TextIsTheFormsDecimalAndAppendsAlike': WHATEVER THE INPUT: true; the input reads as it did. -/
def fnInt64TextIsTheFormsDecimalAndAppendsAlikeSpec : ChangeSpec := { name := "fnInt64TextIsTheFormsDecimalAndAppendsAlike", vars := ["example.com/monotide/monotide.ErrNotInt64"], fn := fun _ => fun
  | [d1, d2, d3, d4, g1] => { results := [.lit (.bool true)], args := [d1, d2, d3, d4], vars := [g1] }
  | _ => none }
def fnInt64TextIsTheFormsDecimalAndAppendsAlikeRow : OpenClaim := { program := "qxb6613619afmt", sum := "f4407c22c0c1245e9a10db3e1d113bc8980f5a01b1e99256616c2850d6bdd7b3", func := "example.com/monotide/monotide/zzlaws_root_b1.FnInt64TextIsTheFormsDecimalAndAppendsAlike", spec := "fnInt64TextIsTheFormsDecimalAndAppendsAlike", stops := ["fmt.errorf"], inPlace := ["fmt.errorf"], named := ["example.com/monotide/monotide.ErrNotInt64", "internal/strconv.uint64pow10", "math/bits.deBruijn32tab", "math/bits.deBruijn64tab"], ifaces := true, apart := false, laid := [("math/bits.deBruijn32tab", laid_math_bits_deBruijn32tab), ("math/bits.deBruijn64tab", laid_math_bits_deBruijn64tab), ("internal/strconv.uint64pow10", laid_internal_strconv_uint64pow10), ("example.com/monotide/monotide.ErrNotInt64", laid_example_com_monotide_monotide_ErrNotInt64)] }
/-- NO THEOREM (fmt's text is open here; it may be false): for the released tool's asking of the row's closed facts alone. THE STATEMENT IS 'FnInt64TextIsTheFormsDecimalAndAppendsAlikeToldSaid' (Qxb6613619aFmtCards.lean). -/
def FnInt64TextIsTheFormsDecimalAndAppendsAlikeFormAsk : Prop := fnInt64TextIsTheFormsDecimalAndAppendsAlikeRow.holds Tryf.pinned (OpenSpec.ofChange fnInt64TextIsTheFormsDecimalAndAppendsAlikeSpec)

/-- ITS FALSE NEIGHBOUR: 'it returns false'. Refute it at one input. -/
def fnInt64TextIsTheFormsDecimalAndAppendsAlikeWrong : ChangeSpec := { name := "fnInt64TextIsTheFormsDecimalAndAppendsAlike", vars := ["example.com/monotide/monotide.ErrNotInt64"], fn := fun _ => fun
  | [d1, d2, d3, d4, g1] => { results := [.lit (.bool false)], args := [d1, d2, d3, d4], vars := [g1] }
  | _ => none }
def FnInt64TextIsTheFormsDecimalAndAppendsAlikeWrongFormAsk : Prop := fnInt64TextIsTheFormsDecimalAndAppendsAlikeRow.holds Tryf.pinned (OpenSpec.ofChange fnInt64TextIsTheFormsDecimalAndAppendsAlikeWrong)

/-- 'zzlaws_root_b1.FnInt64TextsOrderAsTheirValues': WHATEVER THE INPUT: true; the input reads as it did. -/
def fnInt64TextsOrderAsTheirValuesSpec : ChangeSpec := { name := "fnInt64TextsOrderAsTheirValues", vars := ["example.com/monotide/monotide.ErrNotInt64"], fn := fun _ => fun
  | [d1, d2, d3, d4, d5, d6, g1] => { results := [.lit (.bool true)], args := [d1, d2, d3, d4, d5, d6], vars := [g1] }
  | _ => none }
def fnInt64TextsOrderAsTheirValuesRow : OpenClaim := { program := "qxb6613619afmt", sum := "f4407c22c0c1245e9a10db3e1d113bc8980f5a01b1e99256616c2850d6bdd7b3", func := "example.com/monotide/monotide/zzlaws_root_b1.FnInt64TextsOrderAsTheirValues", spec := "fnInt64TextsOrderAsTheirValues", stops := ["fmt.errorf"], inPlace := ["fmt.errorf"], named := ["example.com/monotide/monotide.ErrNotInt64", "internal/strconv.uint64pow10", "math/bits.deBruijn32tab", "math/bits.deBruijn64tab"], ifaces := true, apart := false, laid := [("math/bits.deBruijn32tab", laid_math_bits_deBruijn32tab), ("math/bits.deBruijn64tab", laid_math_bits_deBruijn64tab), ("internal/strconv.uint64pow10", laid_internal_strconv_uint64pow10), ("example.com/monotide/monotide.ErrNotInt64", laid_example_com_monotide_monotide_ErrNotInt64)] }
/-- NO THEOREM (fmt's text is open here; it may be false): for the released tool's asking of the row's closed facts alone. THE STATEMENT IS 'FnInt64TextsOrderAsTheirValuesToldSaid' (Qxb6613619aFmtCards.lean). -/
def FnInt64TextsOrderAsTheirValuesFormAsk : Prop := fnInt64TextsOrderAsTheirValuesRow.holds Tryf.pinned (OpenSpec.ofChange fnInt64TextsOrderAsTheirValuesSpec)

/-- ITS FALSE NEIGHBOUR: 'it returns false'. Refute it at one input. -/
def fnInt64TextsOrderAsTheirValuesWrong : ChangeSpec := { name := "fnInt64TextsOrderAsTheirValues", vars := ["example.com/monotide/monotide.ErrNotInt64"], fn := fun _ => fun
  | [d1, d2, d3, d4, d5, d6, g1] => { results := [.lit (.bool false)], args := [d1, d2, d3, d4, d5, d6], vars := [g1] }
  | _ => none }
def FnInt64TextsOrderAsTheirValuesWrongFormAsk : Prop := fnInt64TextsOrderAsTheirValuesRow.holds Tryf.pinned (OpenSpec.ofChange fnInt64TextsOrderAsTheirValuesWrong)

/-- 'zzlaws_root_b1.FnStampTextsOrderAsTheirValues': WHATEVER THE INPUT: true; the input reads as it did. -/
def fnStampTextsOrderAsTheirValuesSpec : ChangeSpec := { name := "fnStampTextsOrderAsTheirValues", vars := ["example.com/monotide/monotide.ErrNotStamp"], fn := fun _ => fun
  | [d1, d2, g1] => { results := [.lit (.bool true)], args := [d1, d2], vars := [g1] }
  | _ => none }
def fnStampTextsOrderAsTheirValuesRow : OpenClaim := { program := "qxb6613619afmt", sum := "f4407c22c0c1245e9a10db3e1d113bc8980f5a01b1e99256616c2850d6bdd7b3", func := "example.com/monotide/monotide/zzlaws_root_b1.FnStampTextsOrderAsTheirValues", spec := "fnStampTextsOrderAsTheirValues", stops := ["fmt.errorf"], inPlace := ["fmt.errorf"], named := ["example.com/monotide/monotide.ErrNotStamp"], ifaces := true, apart := false, laid := [("example.com/monotide/monotide.ErrNotStamp", laid_example_com_monotide_monotide_ErrNotStamp)] }
/-- NO THEOREM (fmt's text is open here; it may be false): for the released tool's asking of the row's closed facts alone. THE STATEMENT IS 'FnStampTextsOrderAsTheirValuesToldSaid' (Qxb6613619aFmtCards.lean). -/
def FnStampTextsOrderAsTheirValuesFormAsk : Prop := fnStampTextsOrderAsTheirValuesRow.holds Tryf.pinned (OpenSpec.ofChange fnStampTextsOrderAsTheirValuesSpec)

/-- ITS FALSE NEIGHBOUR: 'it returns false'. Refute it at one input. -/
def fnStampTextsOrderAsTheirValuesWrong : ChangeSpec := { name := "fnStampTextsOrderAsTheirValues", vars := ["example.com/monotide/monotide.ErrNotStamp"], fn := fun _ => fun
  | [d1, d2, g1] => { results := [.lit (.bool false)], args := [d1, d2], vars := [g1] }
  | _ => none }
def FnStampTextsOrderAsTheirValuesWrongFormAsk : Prop := fnStampTextsOrderAsTheirValuesRow.holds Tryf.pinned (OpenSpec.ofChange fnStampTextsOrderAsTheirValuesWrong)

/-- 'zzlaws_root_b1.FnStampUnmarshalReplacesOrKeepsWhateverItHeld': WHATEVER THE INPUT: true; the input reads as it did. -/
def fnStampUnmarshalReplacesOrKeepsWhateverItHeldSpec : ChangeSpec := { name := "fnStampUnmarshalReplacesOrKeepsWhateverItHeld", vars := ["example.com/monotide/monotide.ErrNotStamp"], fn := fun _ => fun
  | [d1, d2, d3, d4, g1] => { results := [.lit (.bool true)], args := [d1, d2, d3, d4], vars := [g1] }
  | _ => none }
def fnStampUnmarshalReplacesOrKeepsWhateverItHeldRow : OpenClaim := { program := "qxb6613619afmt", sum := "f4407c22c0c1245e9a10db3e1d113bc8980f5a01b1e99256616c2850d6bdd7b3", func := "example.com/monotide/monotide/zzlaws_root_b1.FnStampUnmarshalReplacesOrKeepsWhateverItHeld", spec := "fnStampUnmarshalReplacesOrKeepsWhateverItHeld", stops := ["fmt.errorf"], inPlace := ["fmt.errorf"], named := ["example.com/monotide/monotide.ErrNotStamp"], ifaces := true, apart := false, laid := [("example.com/monotide/monotide.ErrNotStamp", laid_example_com_monotide_monotide_ErrNotStamp)] }
/-- NO THEOREM (fmt's text is open here; it may be false): for the released tool's asking of the row's closed facts alone. THE STATEMENT IS 'FnStampUnmarshalReplacesOrKeepsWhateverItHeldToldSaid' (Qxb6613619aFmtCards.lean). -/
def FnStampUnmarshalReplacesOrKeepsWhateverItHeldFormAsk : Prop := fnStampUnmarshalReplacesOrKeepsWhateverItHeldRow.holds Tryf.pinned (OpenSpec.ofChange fnStampUnmarshalReplacesOrKeepsWhateverItHeldSpec)

/-- ITS FALSE NEIGHBOUR: 'it returns false'. Refute it at one input. -/
def fnStampUnmarshalReplacesOrKeepsWhateverItHeldWrong : ChangeSpec := { name := "fnStampUnmarshalReplacesOrKeepsWhateverItHeld", vars := ["example.com/monotide/monotide.ErrNotStamp"], fn := fun _ => fun
  | [d1, d2, d3, d4, g1] => { results := [.lit (.bool false)], args := [d1, d2, d3, d4], vars := [g1] }
  | _ => none }
def FnStampUnmarshalReplacesOrKeepsWhateverItHeldWrongFormAsk : Prop := fnStampUnmarshalReplacesOrKeepsWhateverItHeldRow.holds Tryf.pinned (OpenSpec.ofChange fnStampUnmarshalReplacesOrKeepsWhateverItHeldWrong)

end Rows
end Go.Proofs.Qxb6613619aFmt
