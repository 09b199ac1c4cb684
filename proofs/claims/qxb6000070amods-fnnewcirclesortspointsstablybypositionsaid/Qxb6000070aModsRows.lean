/-
  No cell of these rows narrows 'for every input' (looked for: loops, veiled, ifaces, maps, wideKeys, modest, calm, conditions, laid).
  DERIVED. THE GIVEN ROWS OF THIS SEAT. 5 by the template 'for every input the law returns true; each argument reads behind the call as it read before'; 0 by the template 'total and deterministic' (their statements: Qxb6000070aModsTotals.lean).
  GIVEN WITH THE SEED: the statements are not yours to turn. If you find one false, say at which input.
  Laid BY PROGRAM, IN A SANDBOX (cutbox-rows.mjs): the forced cells as the released guide's own fill.sh prints them over the translation 2ae646da92d68dcc… (all of the seat's roots in one cut). By AI agents, Wed Nov 11 2026. No macro, syntax, notation, axiom, sorry.
-/
import Derived.Test.Qxb6000070aModsChecked
import GoSem.Claim
import GoSem.ClaimJoined
import GoSem.ClaimMapViews
import Derived.JoinedTies
import Derived.KernelRfl
namespace Go.Proofs.Qxb6000070aMods
/- THE CELL 'sum', in the pinned program and in every row, IS THE sha256 OF THE DUMP (.gsa) THAT Qxb6000070aModsProg.lean LOADS. Nothing in Lean hashes anything: it is a label: what it is worth is what the hold of that sum in a sandbox is worth. -/
noncomputable def Trym.pinned : Pinned := { name := "qxb6000070amods", sum := "2ae646da92d68dccd3f85aa563d69393ee390d802d810b18d6d5880a67959b4d", checked := Trym.checked }
namespace Rows
def none {H : Type} : Left H := { results := [], args := [] }

/-- 'zzlaws_root_b1.FnFirstWideIsFirstAtOrAfterOrWraps': WHATEVER THE INPUT: true; the input reads as it did. -/
def fnFirstWideIsFirstAtOrAfterOrWrapsSpec : ChangeSpec := { name := "fnFirstWideIsFirstAtOrAfterOrWraps", fn := fun _ => fun
  | [d1, d2, d3] => { results := [.lit (.bool true)], args := [d1, d2, d3] }
  | _ => none }
def fnFirstWideIsFirstAtOrAfterOrWrapsRow : OpenClaim := { program := "qxb6000070amods", sum := "2ae646da92d68dccd3f85aa563d69393ee390d802d810b18d6d5880a67959b4d", func := "example.com/steady-ring/steady-ring/zzlaws_root_b1.FnFirstWideIsFirstAtOrAfterOrWraps", spec := "fnFirstWideIsFirstAtOrAfterOrWraps", make := .lifted ["publicsums"], apart := false }
def FnFirstWideIsFirstAtOrAfterOrWrapsSaid : Prop := fnFirstWideIsFirstAtOrAfterOrWrapsRow.holds Trym.pinned (OpenSpec.ofChange fnFirstWideIsFirstAtOrAfterOrWrapsSpec)

/-- ITS FALSE NEIGHBOUR: 'it returns false'. Refute it at one input. -/
def fnFirstWideIsFirstAtOrAfterOrWrapsWrong : ChangeSpec := { name := "fnFirstWideIsFirstAtOrAfterOrWraps", fn := fun _ => fun
  | [d1, d2, d3] => { results := [.lit (.bool false)], args := [d1, d2, d3] }
  | _ => none }
def FnFirstWideIsFirstAtOrAfterOrWrapsWrongFalsely : Prop := fnFirstWideIsFirstAtOrAfterOrWrapsRow.holds Trym.pinned (OpenSpec.ofChange fnFirstWideIsFirstAtOrAfterOrWrapsWrong)

/-- 'zzlaws_root_b1.FnFirstNarrowIsFirstAtOrAfterOrWraps': WHATEVER THE INPUT: true; the input reads as it did. -/
def fnFirstNarrowIsFirstAtOrAfterOrWrapsSpec : ChangeSpec := { name := "fnFirstNarrowIsFirstAtOrAfterOrWraps", fn := fun _ => fun
  | [d1, d2, d3, d4] => { results := [.lit (.bool true)], args := [d1, d2, d3, d4] }
  | _ => none }
def fnFirstNarrowIsFirstAtOrAfterOrWrapsRow : OpenClaim := { program := "qxb6000070amods", sum := "2ae646da92d68dccd3f85aa563d69393ee390d802d810b18d6d5880a67959b4d", func := "example.com/steady-ring/steady-ring/zzlaws_root_b1.FnFirstNarrowIsFirstAtOrAfterOrWraps", spec := "fnFirstNarrowIsFirstAtOrAfterOrWraps", make := .lifted ["publicsums"], apart := false }
def FnFirstNarrowIsFirstAtOrAfterOrWrapsSaid : Prop := fnFirstNarrowIsFirstAtOrAfterOrWrapsRow.holds Trym.pinned (OpenSpec.ofChange fnFirstNarrowIsFirstAtOrAfterOrWrapsSpec)

/-- ITS FALSE NEIGHBOUR: 'it returns false'. Refute it at one input. -/
def fnFirstNarrowIsFirstAtOrAfterOrWrapsWrong : ChangeSpec := { name := "fnFirstNarrowIsFirstAtOrAfterOrWraps", fn := fun _ => fun
  | [d1, d2, d3, d4] => { results := [.lit (.bool false)], args := [d1, d2, d3, d4] }
  | _ => none }
def FnFirstNarrowIsFirstAtOrAfterOrWrapsWrongFalsely : Prop := fnFirstNarrowIsFirstAtOrAfterOrWrapsRow.holds Trym.pinned (OpenSpec.ofChange fnFirstNarrowIsFirstAtOrAfterOrWrapsWrong)

/-- 'zzlaws_root_b1.FnNewCircleSortsPointsStablyByPosition': WHATEVER THE INPUT: true; the input reads as it did. -/
def fnNewCircleSortsPointsStablyByPositionSpec : ChangeSpec := { name := "fnNewCircleSortsPointsStablyByPosition", fn := fun _ => fun
  | [d1, d2] => { results := [.lit (.bool true)], args := [d1, d2] }
  | _ => none }
def fnNewCircleSortsPointsStablyByPositionRow : OpenClaim := { program := "qxb6000070amods", sum := "2ae646da92d68dccd3f85aa563d69393ee390d802d810b18d6d5880a67959b4d", func := "example.com/steady-ring/steady-ring/zzlaws_root_b1.FnNewCircleSortsPointsStablyByPosition", spec := "fnNewCircleSortsPointsStablyByPosition", make := .lifted ["publicsums"], apart := false }
def FnNewCircleSortsPointsStablyByPositionSaid : Prop := fnNewCircleSortsPointsStablyByPositionRow.holds Trym.pinned (OpenSpec.ofChange fnNewCircleSortsPointsStablyByPositionSpec)

/-- ITS FALSE NEIGHBOUR: 'it returns false'. Refute it at one input. -/
def fnNewCircleSortsPointsStablyByPositionWrong : ChangeSpec := { name := "fnNewCircleSortsPointsStablyByPosition", fn := fun _ => fun
  | [d1, d2] => { results := [.lit (.bool false)], args := [d1, d2] }
  | _ => none }
def FnNewCircleSortsPointsStablyByPositionWrongFalsely : Prop := fnNewCircleSortsPointsStablyByPositionRow.holds Trym.pinned (OpenSpec.ofChange fnNewCircleSortsPointsStablyByPositionWrong)

/-- 'zzlaws_root_b1.FnNewCircleIsIdempotent': WHATEVER THE INPUT: true; the input reads as it did. -/
def fnNewCircleIsIdempotentSpec : ChangeSpec := { name := "fnNewCircleIsIdempotent", fn := fun _ => fun
  | [d1, d2] => { results := [.lit (.bool true)], args := [d1, d2] }
  | _ => none }
def fnNewCircleIsIdempotentRow : OpenClaim := { program := "qxb6000070amods", sum := "2ae646da92d68dccd3f85aa563d69393ee390d802d810b18d6d5880a67959b4d", func := "example.com/steady-ring/steady-ring/zzlaws_root_b1.FnNewCircleIsIdempotent", spec := "fnNewCircleIsIdempotent", make := .lifted ["publicsums"], apart := false }
def FnNewCircleIsIdempotentSaid : Prop := fnNewCircleIsIdempotentRow.holds Trym.pinned (OpenSpec.ofChange fnNewCircleIsIdempotentSpec)

/-- ITS FALSE NEIGHBOUR: 'it returns false'. Refute it at one input. -/
def fnNewCircleIsIdempotentWrong : ChangeSpec := { name := "fnNewCircleIsIdempotent", fn := fun _ => fun
  | [d1, d2] => { results := [.lit (.bool false)], args := [d1, d2] }
  | _ => none }
def FnNewCircleIsIdempotentWrongFalsely : Prop := fnNewCircleIsIdempotentRow.holds Trym.pinned (OpenSpec.ofChange fnNewCircleIsIdempotentWrong)

/-- 'zzlaws_root_b1.FnNewCircleReversedListingReversesTies': WHATEVER THE INPUT: true; the input reads as it did. -/
def fnNewCircleReversedListingReversesTiesSpec : ChangeSpec := { name := "fnNewCircleReversedListingReversesTies", fn := fun _ => fun
  | [d1, d2] => { results := [.lit (.bool true)], args := [d1, d2] }
  | _ => none }
def fnNewCircleReversedListingReversesTiesRow : OpenClaim := { program := "qxb6000070amods", sum := "2ae646da92d68dccd3f85aa563d69393ee390d802d810b18d6d5880a67959b4d", func := "example.com/steady-ring/steady-ring/zzlaws_root_b1.FnNewCircleReversedListingReversesTies", spec := "fnNewCircleReversedListingReversesTies", make := .lifted ["publicsums"], apart := false }
def FnNewCircleReversedListingReversesTiesSaid : Prop := fnNewCircleReversedListingReversesTiesRow.holds Trym.pinned (OpenSpec.ofChange fnNewCircleReversedListingReversesTiesSpec)

/-- ITS FALSE NEIGHBOUR: 'it returns false'. Refute it at one input. -/
def fnNewCircleReversedListingReversesTiesWrong : ChangeSpec := { name := "fnNewCircleReversedListingReversesTies", fn := fun _ => fun
  | [d1, d2] => { results := [.lit (.bool false)], args := [d1, d2] }
  | _ => none }
def FnNewCircleReversedListingReversesTiesWrongFalsely : Prop := fnNewCircleReversedListingReversesTiesRow.holds Trym.pinned (OpenSpec.ofChange fnNewCircleReversedListingReversesTiesWrong)

end Rows
end Go.Proofs.Qxb6000070aMods
