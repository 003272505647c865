/-
  No cell of these rows narrows 'for every input' (looked for: loops, veiled, ifaces, maps, wideKeys, modest, calm, conditions, laid).
  DERIVED. THE GIVEN ROWS OF THIS SEAT. 4 by the template 'for every input the law returns true; each argument reads behind the call as it read before'; 0 by the template 'total and deterministic' (their statements: Qxb6601354aTotals.lean).
  GIVEN WITH THE SEED: the statements are not yours to turn. If you find one false, say at which input.
  Laid BY PROGRAM, IN A SANDBOX (cutbox-rows.mjs): the forced cells as the released guide's own fill.sh prints them over the translation 9507605733e29e22… (all of the seat's roots in one cut). By AI agents, Wed Nov 11 2026. No macro, syntax, notation, axiom, sorry.
-/
import Derived.Test.Qxb6601354aChecked
import GoSem.Claim
import GoSem.ClaimJoined
import GoSem.ClaimMapViews
import Derived.JoinedTies
import Derived.KernelRfl
namespace Go.Proofs.Qxb6601354a
/- THE CELL 'sum', in the pinned program and in every row, IS THE sha256 OF THE DUMP (.gsa) THAT Qxb6601354aProg.lean LOADS. Nothing in Lean hashes anything: it is a label: what it is worth is what the hold of that sum in a sandbox is worth. -/
noncomputable def Try.pinned : Pinned := { name := "qxb6601354a", sum := "9507605733e29e22a1b3761ca2f8a8ac0e6d7dbfb91df1b993a5fc2084fd865e", checked := Try.checked }
namespace Rows
def none {H : Type} : Left H := { results := [], args := [] }

/-- 'zzlaws_internal_money_b1.FnLeadingDigitsMaximalSplit': WHATEVER THE INPUT: true; the input reads as it did. -/
def fnLeadingDigitsMaximalSplitSpec : ChangeSpec := { name := "fnLeadingDigitsMaximalSplit", fn := fun _ => fun
  | [d] => { results := [.lit (.bool true)], args := [d] }
  | _ => none }
def fnLeadingDigitsMaximalSplitRow : OpenClaim := { program := "qxb6601354a", sum := "9507605733e29e22a1b3761ca2f8a8ac0e6d7dbfb91df1b993a5fc2084fd865e", func := "example.com/ledgerbridge/ledgerbridge/zzlaws_internal_money_b1.FnLeadingDigitsMaximalSplit", spec := "fnLeadingDigitsMaximalSplit", apart := false }
def FnLeadingDigitsMaximalSplitSaid : Prop := fnLeadingDigitsMaximalSplitRow.holds Try.pinned (OpenSpec.ofChange fnLeadingDigitsMaximalSplitSpec)

/-- ITS FALSE NEIGHBOUR: 'it returns false'. Refute it at one input. -/
def fnLeadingDigitsMaximalSplitWrong : ChangeSpec := { name := "fnLeadingDigitsMaximalSplit", fn := fun _ => fun
  | [d] => { results := [.lit (.bool false)], args := [d] }
  | _ => none }
def FnLeadingDigitsMaximalSplitWrongFalsely : Prop := fnLeadingDigitsMaximalSplitRow.holds Try.pinned (OpenSpec.ofChange fnLeadingDigitsMaximalSplitWrong)

/-- 'zzlaws_internal_money_b1.FnLeadingDigitsDigitPrefixCarriesOver': WHATEVER THE INPUT: true; the input reads as it did. -/
def fnLeadingDigitsDigitPrefixCarriesOverSpec : ChangeSpec := { name := "fnLeadingDigitsDigitPrefixCarriesOver", fn := fun _ => fun
  | [d1, d2] => { results := [.lit (.bool true)], args := [d1, d2] }
  | _ => none }
def fnLeadingDigitsDigitPrefixCarriesOverRow : OpenClaim := { program := "qxb6601354a", sum := "9507605733e29e22a1b3761ca2f8a8ac0e6d7dbfb91df1b993a5fc2084fd865e", func := "example.com/ledgerbridge/ledgerbridge/zzlaws_internal_money_b1.FnLeadingDigitsDigitPrefixCarriesOver", spec := "fnLeadingDigitsDigitPrefixCarriesOver", apart := false }
def FnLeadingDigitsDigitPrefixCarriesOverSaid : Prop := fnLeadingDigitsDigitPrefixCarriesOverRow.holds Try.pinned (OpenSpec.ofChange fnLeadingDigitsDigitPrefixCarriesOverSpec)

/-- ITS FALSE NEIGHBOUR: 'it returns false'. Refute it at one input. -/
def fnLeadingDigitsDigitPrefixCarriesOverWrong : ChangeSpec := { name := "fnLeadingDigitsDigitPrefixCarriesOver", fn := fun _ => fun
  | [d1, d2] => { results := [.lit (.bool false)], args := [d1, d2] }
  | _ => none }
def FnLeadingDigitsDigitPrefixCarriesOverWrongFalsely : Prop := fnLeadingDigitsDigitPrefixCarriesOverRow.holds Try.pinned (OpenSpec.ofChange fnLeadingDigitsDigitPrefixCarriesOverWrong)

/-- 'zzlaws_internal_money_b1.FnCutFractionCaseTable': WHATEVER THE INPUT: true; the input reads as it did. -/
def fnCutFractionCaseTableSpec : ChangeSpec := { name := "fnCutFractionCaseTable", fn := fun _ => fun
  | [d] => { results := [.lit (.bool true)], args := [d] }
  | _ => none }
def fnCutFractionCaseTableRow : OpenClaim := { program := "qxb6601354a", sum := "9507605733e29e22a1b3761ca2f8a8ac0e6d7dbfb91df1b993a5fc2084fd865e", func := "example.com/ledgerbridge/ledgerbridge/zzlaws_internal_money_b1.FnCutFractionCaseTable", spec := "fnCutFractionCaseTable", apart := false }
def FnCutFractionCaseTableSaid : Prop := fnCutFractionCaseTableRow.holds Try.pinned (OpenSpec.ofChange fnCutFractionCaseTableSpec)

/-- ITS FALSE NEIGHBOUR: 'it returns false'. Refute it at one input. -/
def fnCutFractionCaseTableWrong : ChangeSpec := { name := "fnCutFractionCaseTable", fn := fun _ => fun
  | [d] => { results := [.lit (.bool false)], args := [d] }
  | _ => none }
def FnCutFractionCaseTableWrongFalsely : Prop := fnCutFractionCaseTableRow.holds Try.pinned (OpenSpec.ofChange fnCutFractionCaseTableWrong)

/-- 'zzlaws_internal_money_b1.FnCutFractionRebuildsFromParts': WHATEVER THE INPUT: true; the input reads as it did. -/
def fnCutFractionRebuildsFromPartsSpec : ChangeSpec := { name := "fnCutFractionRebuildsFromParts", fn := fun _ => fun
  | [d1, d2] => { results := [.lit (.bool true)], args := [d1, d2] }
  | _ => none }
def fnCutFractionRebuildsFromPartsRow : OpenClaim := { program := "qxb6601354a", sum := "9507605733e29e22a1b3761ca2f8a8ac0e6d7dbfb91df1b993a5fc2084fd865e", func := "example.com/ledgerbridge/ledgerbridge/zzlaws_internal_money_b1.FnCutFractionRebuildsFromParts", spec := "fnCutFractionRebuildsFromParts", apart := false }
def FnCutFractionRebuildsFromPartsSaid : Prop := fnCutFractionRebuildsFromPartsRow.holds Try.pinned (OpenSpec.ofChange fnCutFractionRebuildsFromPartsSpec)

/-- ITS FALSE NEIGHBOUR: 'it returns false'. Refute it at one input. -/
def fnCutFractionRebuildsFromPartsWrong : ChangeSpec := { name := "fnCutFractionRebuildsFromParts", fn := fun _ => fun
  | [d1, d2] => { results := [.lit (.bool false)], args := [d1, d2] }
  | _ => none }
def FnCutFractionRebuildsFromPartsWrongFalsely : Prop := fnCutFractionRebuildsFromPartsRow.holds Try.pinned (OpenSpec.ofChange fnCutFractionRebuildsFromPartsWrong)

end Rows
end Go.Proofs.Qxb6601354a
