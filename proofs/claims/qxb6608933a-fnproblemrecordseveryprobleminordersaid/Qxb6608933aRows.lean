/-
  No cell of these rows narrows 'for every input' (looked for: loops, veiled, ifaces, maps, wideKeys, modest, calm, conditions, laid).
  DERIVED. THE GIVEN ROWS OF THIS SEAT. 4 by the template 'for every input the law returns true; each argument reads behind the call as it read before'; 0 by the template 'total and deterministic' (their statements: Qxb6608933aTotals.lean).
  GIVEN WITH THE SEED: the statements are not yours to turn. If you find one false, say at which input.
  Laid BY PROGRAM, IN A SANDBOX (cutbox-rows.mjs): the forced cells as the released guide's own fill.sh prints them over the translation 3aacd90278faa818… (all of the seat's roots in one cut). By AI agents, Wed Nov 11 2026. No macro, syntax, notation, axiom, sorry.
-/
import Derived.Test.Qxb6608933aChecked
import GoSem.Claim
import GoSem.ClaimJoined
import GoSem.ClaimMapViews
import Derived.JoinedTies
import Derived.KernelRfl
namespace Go.Proofs.Qxb6608933a
/- THE CELL 'sum', in the pinned program and in every row, IS THE sha256 OF THE DUMP (.gsa) THAT Qxb6608933aProg.lean LOADS. Nothing in Lean hashes anything: it is a label: what it is worth is what the hold of that sum in a sandbox is worth. -/
noncomputable def Try.pinned : Pinned := { name := "qxb6608933a", sum := "3aacd90278faa818bcdcc4ccf2fc572e14488a917442c9c9ce21ef025215e820", checked := Try.checked }
namespace Rows
def none {H : Type} : Left H := { results := [], args := [] }

/-- 'zzlaws_limits_b1.FnNewListBuilderStartsEmptyAndRefusesAnEmptyList': WHATEVER THE INPUT: true; the input reads as it did. -/
def fnNewListBuilderStartsEmptyAndRefusesAnEmptyListSpec : ChangeSpec := { name := "fnNewListBuilderStartsEmptyAndRefusesAnEmptyList", fn := fun _ => fun
  | [d1, d2, d3, d4] => { results := [.lit (.bool true)], args := [d1, d2, d3, d4] }
  | _ => none }
def fnNewListBuilderStartsEmptyAndRefusesAnEmptyListRow : OpenClaim := { program := "qxb6608933a", sum := "3aacd90278faa818bcdcc4ccf2fc572e14488a917442c9c9ce21ef025215e820", func := "example.com/quartermark/quartermark/zzlaws_limits_b1.FnNewListBuilderStartsEmptyAndRefusesAnEmptyList", spec := "fnNewListBuilderStartsEmptyAndRefusesAnEmptyList", apart := false }
def FnNewListBuilderStartsEmptyAndRefusesAnEmptyListSaid : Prop := fnNewListBuilderStartsEmptyAndRefusesAnEmptyListRow.holds Try.pinned (OpenSpec.ofChange fnNewListBuilderStartsEmptyAndRefusesAnEmptyListSpec)

/-- ITS FALSE NEIGHBOUR: 'it returns false'. Refute it at one input. -/
def fnNewListBuilderStartsEmptyAndRefusesAnEmptyListWrong : ChangeSpec := { name := "fnNewListBuilderStartsEmptyAndRefusesAnEmptyList", fn := fun _ => fun
  | [d1, d2, d3, d4] => { results := [.lit (.bool false)], args := [d1, d2, d3, d4] }
  | _ => none }
def FnNewListBuilderStartsEmptyAndRefusesAnEmptyListWrongFalsely : Prop := fnNewListBuilderStartsEmptyAndRefusesAnEmptyListRow.holds Try.pinned (OpenSpec.ofChange fnNewListBuilderStartsEmptyAndRefusesAnEmptyListWrong)

/-- 'zzlaws_limits_b1.FnNewListBuilderMakesIndependentBuilders': WHATEVER THE INPUT: true; the input reads as it did. -/
def fnNewListBuilderMakesIndependentBuildersSpec : ChangeSpec := { name := "fnNewListBuilderMakesIndependentBuilders", fn := fun _ => fun
  | [d1, d2, d3, d4, d5, d6, d7, d8] => { results := [.lit (.bool true)], args := [d1, d2, d3, d4, d5, d6, d7, d8] }
  | _ => none }
def fnNewListBuilderMakesIndependentBuildersRow : OpenClaim := { program := "qxb6608933a", sum := "3aacd90278faa818bcdcc4ccf2fc572e14488a917442c9c9ce21ef025215e820", func := "example.com/quartermark/quartermark/zzlaws_limits_b1.FnNewListBuilderMakesIndependentBuilders", spec := "fnNewListBuilderMakesIndependentBuilders", apart := false }
def FnNewListBuilderMakesIndependentBuildersSaid : Prop := fnNewListBuilderMakesIndependentBuildersRow.holds Try.pinned (OpenSpec.ofChange fnNewListBuilderMakesIndependentBuildersSpec)

/-- ITS FALSE NEIGHBOUR: 'it returns false'. Refute it at one input. -/
def fnNewListBuilderMakesIndependentBuildersWrong : ChangeSpec := { name := "fnNewListBuilderMakesIndependentBuilders", fn := fun _ => fun
  | [d1, d2, d3, d4, d5, d6, d7, d8] => { results := [.lit (.bool false)], args := [d1, d2, d3, d4, d5, d6, d7, d8] }
  | _ => none }
def FnNewListBuilderMakesIndependentBuildersWrongFalsely : Prop := fnNewListBuilderMakesIndependentBuildersRow.holds Try.pinned (OpenSpec.ofChange fnNewListBuilderMakesIndependentBuildersWrong)

/-- 'zzlaws_limits_b1.FnProblemRecordsEveryProblemInOrder': WHATEVER THE INPUT: true; the input reads as it did. -/
def fnProblemRecordsEveryProblemInOrderSpec : ChangeSpec := { name := "fnProblemRecordsEveryProblemInOrder", fn := fun _ => fun
  | [d1, d2, d3, d4] => { results := [.lit (.bool true)], args := [d1, d2, d3, d4] }
  | _ => none }
def fnProblemRecordsEveryProblemInOrderRow : OpenClaim := { program := "qxb6608933a", sum := "3aacd90278faa818bcdcc4ccf2fc572e14488a917442c9c9ce21ef025215e820", func := "example.com/quartermark/quartermark/zzlaws_limits_b1.FnProblemRecordsEveryProblemInOrder", spec := "fnProblemRecordsEveryProblemInOrder", apart := false }
def FnProblemRecordsEveryProblemInOrderSaid : Prop := fnProblemRecordsEveryProblemInOrderRow.holds Try.pinned (OpenSpec.ofChange fnProblemRecordsEveryProblemInOrderSpec)

/-- ITS FALSE NEIGHBOUR: 'it returns false'. Refute it at one input. -/
def fnProblemRecordsEveryProblemInOrderWrong : ChangeSpec := { name := "fnProblemRecordsEveryProblemInOrder", fn := fun _ => fun
  | [d1, d2, d3, d4] => { results := [.lit (.bool false)], args := [d1, d2, d3, d4] }
  | _ => none }
def FnProblemRecordsEveryProblemInOrderWrongFalsely : Prop := fnProblemRecordsEveryProblemInOrderRow.holds Try.pinned (OpenSpec.ofChange fnProblemRecordsEveryProblemInOrderWrong)

/-- 'zzlaws_limits_b1.FnProblemAppendsAfterTheNoRowsProblem': WHATEVER THE INPUT: true; the input reads as it did. -/
def fnProblemAppendsAfterTheNoRowsProblemSpec : ChangeSpec := { name := "fnProblemAppendsAfterTheNoRowsProblem", fn := fun _ => fun
  | [d1, d2, d3] => { results := [.lit (.bool true)], args := [d1, d2, d3] }
  | _ => none }
def fnProblemAppendsAfterTheNoRowsProblemRow : OpenClaim := { program := "qxb6608933a", sum := "3aacd90278faa818bcdcc4ccf2fc572e14488a917442c9c9ce21ef025215e820", func := "example.com/quartermark/quartermark/zzlaws_limits_b1.FnProblemAppendsAfterTheNoRowsProblem", spec := "fnProblemAppendsAfterTheNoRowsProblem", apart := false }
def FnProblemAppendsAfterTheNoRowsProblemSaid : Prop := fnProblemAppendsAfterTheNoRowsProblemRow.holds Try.pinned (OpenSpec.ofChange fnProblemAppendsAfterTheNoRowsProblemSpec)

/-- ITS FALSE NEIGHBOUR: 'it returns false'. Refute it at one input. -/
def fnProblemAppendsAfterTheNoRowsProblemWrong : ChangeSpec := { name := "fnProblemAppendsAfterTheNoRowsProblem", fn := fun _ => fun
  | [d1, d2, d3] => { results := [.lit (.bool false)], args := [d1, d2, d3] }
  | _ => none }
def FnProblemAppendsAfterTheNoRowsProblemWrongFalsely : Prop := fnProblemAppendsAfterTheNoRowsProblemRow.holds Try.pinned (OpenSpec.ofChange fnProblemAppendsAfterTheNoRowsProblemWrong)

end Rows
end Go.Proofs.Qxb6608933a
