/-
  No cell of these rows narrows 'for every input' (looked for: loops, veiled, ifaces, maps, wideKeys, modest, calm, conditions, laid).
  DERIVED. THE GIVEN ROWS OF THIS SEAT. 3 by the template 'for every input the law returns true; each argument reads behind the call as it read before'; 0 by the template 'total and deterministic' (their statements: Qxb6000051aModsTotals.lean).
  GIVEN WITH THE SEED: the statements are not yours to turn. If you find one false, say at which input.
  Laid BY PROGRAM, IN A SANDBOX (cutbox-rows.mjs): the forced cells as the released guide's own fill.sh prints them over the translation db9a5182433d3629… (all of the seat's roots in one cut). By AI agents, Wed Nov 11 2026. No macro, syntax, notation, axiom, sorry.
-/
import Derived.Test.Qxb6000051aModsChecked
import GoSem.Claim
import GoSem.ClaimJoined
import GoSem.ClaimMapViews
import Derived.JoinedTies
import Derived.KernelRfl
namespace Go.Proofs.Qxb6000051aMods
/- THE CELL 'sum', in the pinned program and in every row, IS THE sha256 OF THE DUMP (.gsa) THAT Qxb6000051aModsProg.lean LOADS. Nothing in Lean hashes anything: it is a label: what it is worth is what the hold of that sum in a sandbox is worth. -/
noncomputable def Trym.pinned : Pinned := { name := "qxb6000051amods", sum := "db9a5182433d362905412a58d2c74e24682e503d47871b6695c127e02761fff4", checked := Trym.checked }
namespace Rows
def none {H : Type} : Left H := { results := [], args := [] }

/-- 'zzlaws_root_b1.FnCircleIsStableSortOfPoints': WHATEVER THE INPUT: true; the input reads as it did. -/
def fnCircleIsStableSortOfPointsSpec : ChangeSpec := { name := "fnCircleIsStableSortOfPoints", fn := fun _ => fun
  | [d1, d2] => { results := [.lit (.bool true)], args := [d1, d2] }
  | _ => none }
def fnCircleIsStableSortOfPointsRow : OpenClaim := { program := "qxb6000051amods", sum := "db9a5182433d362905412a58d2c74e24682e503d47871b6695c127e02761fff4", func := "example.com/steady-ring/steady-ring/zzlaws_root_b1.FnCircleIsStableSortOfPoints", spec := "fnCircleIsStableSortOfPoints", make := .lifted ["publicsums"], apart := false }
def FnCircleIsStableSortOfPointsSaid : Prop := fnCircleIsStableSortOfPointsRow.holds Trym.pinned (OpenSpec.ofChange fnCircleIsStableSortOfPointsSpec)

/-- ITS FALSE NEIGHBOUR: 'it returns false'. Refute it at one input. -/
def fnCircleIsStableSortOfPointsWrong : ChangeSpec := { name := "fnCircleIsStableSortOfPoints", fn := fun _ => fun
  | [d1, d2] => { results := [.lit (.bool false)], args := [d1, d2] }
  | _ => none }
def FnCircleIsStableSortOfPointsWrongFalsely : Prop := fnCircleIsStableSortOfPointsRow.holds Trym.pinned (OpenSpec.ofChange fnCircleIsStableSortOfPointsWrong)

/-- 'zzlaws_root_b1.FnCircleReversedListingReversesTies': WHATEVER THE INPUT: true; the input reads as it did. -/
def fnCircleReversedListingReversesTiesSpec : ChangeSpec := { name := "fnCircleReversedListingReversesTies", fn := fun _ => fun
  | [d1, d2] => { results := [.lit (.bool true)], args := [d1, d2] }
  | _ => none }
def fnCircleReversedListingReversesTiesRow : OpenClaim := { program := "qxb6000051amods", sum := "db9a5182433d362905412a58d2c74e24682e503d47871b6695c127e02761fff4", func := "example.com/steady-ring/steady-ring/zzlaws_root_b1.FnCircleReversedListingReversesTies", spec := "fnCircleReversedListingReversesTies", make := .lifted ["publicsums"], apart := false }
def FnCircleReversedListingReversesTiesSaid : Prop := fnCircleReversedListingReversesTiesRow.holds Trym.pinned (OpenSpec.ofChange fnCircleReversedListingReversesTiesSpec)

/-- ITS FALSE NEIGHBOUR: 'it returns false'. Refute it at one input. -/
def fnCircleReversedListingReversesTiesWrong : ChangeSpec := { name := "fnCircleReversedListingReversesTies", fn := fun _ => fun
  | [d1, d2] => { results := [.lit (.bool false)], args := [d1, d2] }
  | _ => none }
def FnCircleReversedListingReversesTiesWrongFalsely : Prop := fnCircleReversedListingReversesTiesRow.holds Trym.pinned (OpenSpec.ofChange fnCircleReversedListingReversesTiesWrong)

/-- 'zzlaws_root_b1.FnFirstIsFirstAtOrAfterWrapping': WHATEVER THE INPUT: true; the input reads as it did. -/
def fnFirstIsFirstAtOrAfterWrappingSpec : ChangeSpec := { name := "fnFirstIsFirstAtOrAfterWrapping", fn := fun _ => fun
  | [d1, d2, d3] => { results := [.lit (.bool true)], args := [d1, d2, d3] }
  | _ => none }
def fnFirstIsFirstAtOrAfterWrappingRow : OpenClaim := { program := "qxb6000051amods", sum := "db9a5182433d362905412a58d2c74e24682e503d47871b6695c127e02761fff4", func := "example.com/steady-ring/steady-ring/zzlaws_root_b1.FnFirstIsFirstAtOrAfterWrapping", spec := "fnFirstIsFirstAtOrAfterWrapping", make := .lifted ["publicsums"], apart := false }
def FnFirstIsFirstAtOrAfterWrappingSaid : Prop := fnFirstIsFirstAtOrAfterWrappingRow.holds Trym.pinned (OpenSpec.ofChange fnFirstIsFirstAtOrAfterWrappingSpec)

/-- ITS FALSE NEIGHBOUR: 'it returns false'. Refute it at one input. -/
def fnFirstIsFirstAtOrAfterWrappingWrong : ChangeSpec := { name := "fnFirstIsFirstAtOrAfterWrapping", fn := fun _ => fun
  | [d1, d2, d3] => { results := [.lit (.bool false)], args := [d1, d2, d3] }
  | _ => none }
def FnFirstIsFirstAtOrAfterWrappingWrongFalsely : Prop := fnFirstIsFirstAtOrAfterWrappingRow.holds Trym.pinned (OpenSpec.ofChange fnFirstIsFirstAtOrAfterWrappingWrong)

end Rows
end Go.Proofs.Qxb6000051aMods
