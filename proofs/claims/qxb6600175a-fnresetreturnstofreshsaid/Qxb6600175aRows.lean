/-
  No cell of these rows narrows 'for every input' (looked for: loops, veiled, ifaces, maps, wideKeys, modest, calm, conditions, laid).
  DERIVED. THE GIVEN ROWS OF THIS SEAT. 4 by the template 'for every input the law returns true; each argument reads behind the call as it read before'; 0 by the template 'total and deterministic' (their statements: Qxb6600175aTotals.lean).
  GIVEN WITH THE SEED: the statements are not yours to turn. If you find one false, say at which input.
  Laid BY PROGRAM, IN A SANDBOX (cutbox-rows.mjs): the forced cells as the released guide's own fill.sh prints them over the translation 8061826835e92abe… (all of the seat's roots in one cut). By AI agents, Wed Nov 11 2026. No macro, syntax, notation, axiom, sorry.
-/
import Derived.Test.Qxb6600175aChecked
import GoSem.Claim
import GoSem.ClaimJoined
import GoSem.ClaimMapViews
import Derived.JoinedTies
import Derived.KernelRfl
namespace Go.Proofs.Qxb6600175a
/- THE CELL 'sum', in the pinned program and in every row, IS THE sha256 OF THE DUMP (.gsa) THAT Qxb6600175aProg.lean LOADS. Nothing in Lean hashes anything: it is a label: what it is worth is what the hold of that sum in a sandbox is worth. -/
noncomputable def Try.pinned : Pinned := { name := "qxb6600175a", sum := "8061826835e92abeba437073b130cd9549f0d2dee01ba6e90d689c2154c61cd5", checked := Try.checked }
namespace Rows
def none {H : Type} : Left H := { results := [], args := [] }

/-- 'zzlaws_node_b1.FnScriptStreamMatchesModel': WHATEVER THE INPUT: true; the input reads as it did. -/
def fnScriptStreamMatchesModelSpec : ChangeSpec := { name := "fnScriptStreamMatchesModel", fn := fun _ => fun
  | [d1, d2] => { results := [.lit (.bool true)], args := [d1, d2] }
  | _ => none }
def fnScriptStreamMatchesModelRow : OpenClaim := { program := "qxb6600175a", sum := "8061826835e92abeba437073b130cd9549f0d2dee01ba6e90d689c2154c61cd5", func := "example.com/viewkeeper/viewkeeper/zzlaws_node_b1.FnScriptStreamMatchesModel", spec := "fnScriptStreamMatchesModel", apart := false }
def FnScriptStreamMatchesModelSaid : Prop := fnScriptStreamMatchesModelRow.holds Try.pinned (OpenSpec.ofChange fnScriptStreamMatchesModelSpec)

/-- ITS FALSE NEIGHBOUR: 'it returns false'. Refute it at one input. -/
def fnScriptStreamMatchesModelWrong : ChangeSpec := { name := "fnScriptStreamMatchesModel", fn := fun _ => fun
  | [d1, d2] => { results := [.lit (.bool false)], args := [d1, d2] }
  | _ => none }
def FnScriptStreamMatchesModelWrongFalsely : Prop := fnScriptStreamMatchesModelRow.holds Try.pinned (OpenSpec.ofChange fnScriptStreamMatchesModelWrong)

/-- 'zzlaws_node_b1.FnResetReturnsToFresh': WHATEVER THE INPUT: true; the input reads as it did. -/
def fnResetReturnsToFreshSpec : ChangeSpec := { name := "fnResetReturnsToFresh", fn := fun _ => fun
  | [d1, d2, d3, d4, d5, d6, d7, d8] => { results := [.lit (.bool true)], args := [d1, d2, d3, d4, d5, d6, d7, d8] }
  | _ => none }
def fnResetReturnsToFreshRow : OpenClaim := { program := "qxb6600175a", sum := "8061826835e92abeba437073b130cd9549f0d2dee01ba6e90d689c2154c61cd5", func := "example.com/viewkeeper/viewkeeper/zzlaws_node_b1.FnResetReturnsToFresh", spec := "fnResetReturnsToFresh", apart := false }
def FnResetReturnsToFreshSaid : Prop := fnResetReturnsToFreshRow.holds Try.pinned (OpenSpec.ofChange fnResetReturnsToFreshSpec)

/-- ITS FALSE NEIGHBOUR: 'it returns false'. Refute it at one input. -/
def fnResetReturnsToFreshWrong : ChangeSpec := { name := "fnResetReturnsToFresh", fn := fun _ => fun
  | [d1, d2, d3, d4, d5, d6, d7, d8] => { results := [.lit (.bool false)], args := [d1, d2, d3, d4, d5, d6, d7, d8] }
  | _ => none }
def FnResetReturnsToFreshWrongFalsely : Prop := fnResetReturnsToFreshRow.holds Try.pinned (OpenSpec.ofChange fnResetReturnsToFreshWrong)

/-- 'zzlaws_node_b1.FnStretchSplitInvariant': WHATEVER THE INPUT: true; the input reads as it did. -/
def fnStretchSplitInvariantSpec : ChangeSpec := { name := "fnStretchSplitInvariant", fn := fun _ => fun
  | [d1, d2, d3, d4, d5, d6, d7] => { results := [.lit (.bool true)], args := [d1, d2, d3, d4, d5, d6, d7] }
  | _ => none }
def fnStretchSplitInvariantRow : OpenClaim := { program := "qxb6600175a", sum := "8061826835e92abeba437073b130cd9549f0d2dee01ba6e90d689c2154c61cd5", func := "example.com/viewkeeper/viewkeeper/zzlaws_node_b1.FnStretchSplitInvariant", spec := "fnStretchSplitInvariant", apart := false }
def FnStretchSplitInvariantSaid : Prop := fnStretchSplitInvariantRow.holds Try.pinned (OpenSpec.ofChange fnStretchSplitInvariantSpec)

/-- ITS FALSE NEIGHBOUR: 'it returns false'. Refute it at one input. -/
def fnStretchSplitInvariantWrong : ChangeSpec := { name := "fnStretchSplitInvariant", fn := fun _ => fun
  | [d1, d2, d3, d4, d5, d6, d7] => { results := [.lit (.bool false)], args := [d1, d2, d3, d4, d5, d6, d7] }
  | _ => none }
def FnStretchSplitInvariantWrongFalsely : Prop := fnStretchSplitInvariantRow.holds Try.pinned (OpenSpec.ofChange fnStretchSplitInvariantWrong)

/-- 'zzlaws_node_b1.FnBeginHeaderSurvivesStretches': WHATEVER THE INPUT: true; the input reads as it did. -/
def fnBeginHeaderSurvivesStretchesSpec : ChangeSpec := { name := "fnBeginHeaderSurvivesStretches", fn := fun _ => fun
  | [d1, d2, d3, d4, d5] => { results := [.lit (.bool true)], args := [d1, d2, d3, d4, d5] }
  | _ => none }
def fnBeginHeaderSurvivesStretchesRow : OpenClaim := { program := "qxb6600175a", sum := "8061826835e92abeba437073b130cd9549f0d2dee01ba6e90d689c2154c61cd5", func := "example.com/viewkeeper/viewkeeper/zzlaws_node_b1.FnBeginHeaderSurvivesStretches", spec := "fnBeginHeaderSurvivesStretches", apart := false }
def FnBeginHeaderSurvivesStretchesSaid : Prop := fnBeginHeaderSurvivesStretchesRow.holds Try.pinned (OpenSpec.ofChange fnBeginHeaderSurvivesStretchesSpec)

/-- ITS FALSE NEIGHBOUR: 'it returns false'. Refute it at one input. -/
def fnBeginHeaderSurvivesStretchesWrong : ChangeSpec := { name := "fnBeginHeaderSurvivesStretches", fn := fun _ => fun
  | [d1, d2, d3, d4, d5] => { results := [.lit (.bool false)], args := [d1, d2, d3, d4, d5] }
  | _ => none }
def FnBeginHeaderSurvivesStretchesWrongFalsely : Prop := fnBeginHeaderSurvivesStretchesRow.holds Try.pinned (OpenSpec.ofChange fnBeginHeaderSurvivesStretchesWrong)

end Rows
end Go.Proofs.Qxb6600175a
