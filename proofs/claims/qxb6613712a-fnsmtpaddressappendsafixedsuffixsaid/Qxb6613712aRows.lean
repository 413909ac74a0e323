/-
  No cell of these rows narrows 'for every input' (looked for: loops, veiled, ifaces, maps, wideKeys, modest, calm, conditions, laid).
  DERIVED. THE GIVEN ROWS OF THIS SEAT. 1 by the template 'for every input the law returns true; each argument reads behind the call as it read before'; 0 by the template 'total and deterministic' (their statements: Qxb6613712aTotals.lean).
  GIVEN WITH THE SEED: the statements are not yours to turn. If you find one false, say at which input.
  Laid BY PROGRAM, IN A SANDBOX (cutbox-rows.mjs): the forced cells as the released guide's own fill.sh prints them over the translation 536d4349b63f4957… (all of the seat's roots in one cut). By AI agents, Wed Nov 11 2026. No macro, syntax, notation, axiom, sorry.
-/
import Derived.Test.Qxb6613712aChecked
import GoSem.Claim
import GoSem.ClaimJoined
import GoSem.ClaimMapViews
import Derived.JoinedTies
import Derived.KernelRfl
namespace Go.Proofs.Qxb6613712a
/- THE CELL 'sum', in the pinned program and in every row, IS THE sha256 OF THE DUMP (.gsa) THAT Qxb6613712aProg.lean LOADS. Nothing in Lean hashes anything: it is a label: what it is worth is what the hold of that sum in a sandbox is worth. -/
noncomputable def Try.pinned : Pinned := { name := "qxb6613712a", sum := "536d4349b63f49571283cfb1d4c5f54536c3b166a51d45ec7877a98e87823fe5", checked := Try.checked }
namespace Rows
def none {H : Type} : Left H := { results := [], args := [] }

/-- 'zzlaws_account_b1.FnSMTPAddressAppendsAFixedSuffix': WHATEVER THE INPUT: true; the input reads as it did. -/
def fnSMTPAddressAppendsAFixedSuffixSpec : ChangeSpec := { name := "fnSMTPAddressAppendsAFixedSuffix", fn := fun _ => fun
  | [d1, d2] => { results := [.lit (.bool true)], args := [d1, d2] }
  | _ => none }
def fnSMTPAddressAppendsAFixedSuffixRow : OpenClaim := { program := "qxb6613712a", sum := "536d4349b63f49571283cfb1d4c5f54536c3b166a51d45ec7877a98e87823fe5", func := "example.com/gorse/gorse/zzlaws_account_b1.FnSMTPAddressAppendsAFixedSuffix", spec := "fnSMTPAddressAppendsAFixedSuffix", apart := false }
def FnSMTPAddressAppendsAFixedSuffixSaid : Prop := fnSMTPAddressAppendsAFixedSuffixRow.holds Try.pinned (OpenSpec.ofChange fnSMTPAddressAppendsAFixedSuffixSpec)

/-- ITS FALSE NEIGHBOUR: 'it returns false'. Refute it at one input. -/
def fnSMTPAddressAppendsAFixedSuffixWrong : ChangeSpec := { name := "fnSMTPAddressAppendsAFixedSuffix", fn := fun _ => fun
  | [d1, d2] => { results := [.lit (.bool false)], args := [d1, d2] }
  | _ => none }
def FnSMTPAddressAppendsAFixedSuffixWrongFalsely : Prop := fnSMTPAddressAppendsAFixedSuffixRow.holds Try.pinned (OpenSpec.ofChange fnSMTPAddressAppendsAFixedSuffixWrong)

end Rows
end Go.Proofs.Qxb6613712a
