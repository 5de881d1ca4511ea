/-
  No cell of these rows narrows 'for every input' (looked for: loops, veiled, ifaces, maps, wideKeys, modest, calm, conditions, laid).
  DERIVED. THE GIVEN ROWS OF THIS SEAT. 6 by the template 'for every input the law returns true; each argument reads behind the call as it read before'; 0 by the template 'total and deterministic' (their statements: Qxb6601581aTotals.lean).
  GIVEN WITH THE SEED: the statements are not yours to turn. If you find one false, say at which input.
  Laid BY PROGRAM, IN A SANDBOX (cutbox-rows.mjs): the forced cells as the released guide's own fill.sh prints them over the translation 3942d319b3997d59… (all of the seat's roots in one cut). By AI agents, Wed Nov 11 2026. No macro, syntax, notation, axiom, sorry.
-/
import Derived.Test.Qxb6601581aChecked
import GoSem.Claim
import GoSem.ClaimJoined
import GoSem.ClaimMapViews
import Derived.JoinedTies
import Derived.KernelRfl
namespace Go.Proofs.Qxb6601581a
/- THE CELL 'sum', in the pinned program and in every row, IS THE sha256 OF THE DUMP (.gsa) THAT Qxb6601581aProg.lean LOADS. Nothing in Lean hashes anything: it is a label: what it is worth is what the hold of that sum in a sandbox is worth. -/
noncomputable def Try.pinned : Pinned := { name := "qxb6601581a", sum := "3942d319b3997d59b4860e19d987b429f03d46739089e665d1afa595aa2403b0", checked := Try.checked }
namespace Rows
def none {H : Type} : Left H := { results := [], args := [] }

/-- 'zzlaws_hashring_b1.FnTotalPointsAdditiveAndOrderFree': WHATEVER THE INPUT: true; the input reads as it did. -/
def fnTotalPointsAdditiveAndOrderFreeSpec : ChangeSpec := { name := "fnTotalPointsAdditiveAndOrderFree", fn := fun _ => fun
  | [d1, d2] => { results := [.lit (.bool true)], args := [d1, d2] }
  | _ => none }
def fnTotalPointsAdditiveAndOrderFreeRow : OpenClaim := { program := "qxb6601581a", sum := "3942d319b3997d59b4860e19d987b429f03d46739089e665d1afa595aa2403b0", func := "example.com/evenhand/evenhand/zzlaws_hashring_b1.FnTotalPointsAdditiveAndOrderFree", spec := "fnTotalPointsAdditiveAndOrderFree", apart := false }
def FnTotalPointsAdditiveAndOrderFreeSaid : Prop := fnTotalPointsAdditiveAndOrderFreeRow.holds Try.pinned (OpenSpec.ofChange fnTotalPointsAdditiveAndOrderFreeSpec)

/-- ITS FALSE NEIGHBOUR: 'it returns false'. Refute it at one input. -/
def fnTotalPointsAdditiveAndOrderFreeWrong : ChangeSpec := { name := "fnTotalPointsAdditiveAndOrderFree", fn := fun _ => fun
  | [d1, d2] => { results := [.lit (.bool false)], args := [d1, d2] }
  | _ => none }
def FnTotalPointsAdditiveAndOrderFreeWrongFalsely : Prop := fnTotalPointsAdditiveAndOrderFreeRow.holds Try.pinned (OpenSpec.ofChange fnTotalPointsAdditiveAndOrderFreeWrong)

/-- 'zzlaws_hashring_b1.FnPointCountExactProportionalShare': WHATEVER THE INPUT: true; the input reads as it did. -/
def fnPointCountExactProportionalShareSpec : ChangeSpec := { name := "fnPointCountExactProportionalShare", fn := fun _ => fun
  | [d1, d2] => { results := [.lit (.bool true)], args := [d1, d2] }
  | _ => none }
def fnPointCountExactProportionalShareRow : OpenClaim := { program := "qxb6601581a", sum := "3942d319b3997d59b4860e19d987b429f03d46739089e665d1afa595aa2403b0", func := "example.com/evenhand/evenhand/zzlaws_hashring_b1.FnPointCountExactProportionalShare", spec := "fnPointCountExactProportionalShare", apart := false }
def FnPointCountExactProportionalShareSaid : Prop := fnPointCountExactProportionalShareRow.holds Try.pinned (OpenSpec.ofChange fnPointCountExactProportionalShareSpec)

/-- ITS FALSE NEIGHBOUR: 'it returns false'. Refute it at one input. -/
def fnPointCountExactProportionalShareWrong : ChangeSpec := { name := "fnPointCountExactProportionalShare", fn := fun _ => fun
  | [d1, d2] => { results := [.lit (.bool false)], args := [d1, d2] }
  | _ => none }
def FnPointCountExactProportionalShareWrongFalsely : Prop := fnPointCountExactProportionalShareRow.holds Try.pinned (OpenSpec.ofChange fnPointCountExactProportionalShareWrong)

/-- 'zzlaws_hashring_b1.FnPointCountMonotone': WHATEVER THE INPUT: true; the input reads as it did. -/
def fnPointCountMonotoneSpec : ChangeSpec := { name := "fnPointCountMonotone", fn := fun _ => fun
  | [d1, d2, d3, d4] => { results := [.lit (.bool true)], args := [d1, d2, d3, d4] }
  | _ => none }
def fnPointCountMonotoneRow : OpenClaim := { program := "qxb6601581a", sum := "3942d319b3997d59b4860e19d987b429f03d46739089e665d1afa595aa2403b0", func := "example.com/evenhand/evenhand/zzlaws_hashring_b1.FnPointCountMonotone", spec := "fnPointCountMonotone", apart := false }
def FnPointCountMonotoneSaid : Prop := fnPointCountMonotoneRow.holds Try.pinned (OpenSpec.ofChange fnPointCountMonotoneSpec)

/-- ITS FALSE NEIGHBOUR: 'it returns false'. Refute it at one input. -/
def fnPointCountMonotoneWrong : ChangeSpec := { name := "fnPointCountMonotone", fn := fun _ => fun
  | [d1, d2, d3, d4] => { results := [.lit (.bool false)], args := [d1, d2, d3, d4] }
  | _ => none }
def FnPointCountMonotoneWrongFalsely : Prop := fnPointCountMonotoneRow.holds Try.pinned (OpenSpec.ofChange fnPointCountMonotoneWrong)

/-- 'zzlaws_hashring_b1.FnRingPointBudget': WHATEVER THE INPUT: true; the input reads as it did. -/
def fnRingPointBudgetSpec : ChangeSpec := { name := "fnRingPointBudget", fn := fun _ => fun
  | [d] => { results := [.lit (.bool true)], args := [d] }
  | _ => none }
def fnRingPointBudgetRow : OpenClaim := { program := "qxb6601581a", sum := "3942d319b3997d59b4860e19d987b429f03d46739089e665d1afa595aa2403b0", func := "example.com/evenhand/evenhand/zzlaws_hashring_b1.FnRingPointBudget", spec := "fnRingPointBudget", apart := false }
def FnRingPointBudgetSaid : Prop := fnRingPointBudgetRow.holds Try.pinned (OpenSpec.ofChange fnRingPointBudgetSpec)

/-- ITS FALSE NEIGHBOUR: 'it returns false'. Refute it at one input. -/
def fnRingPointBudgetWrong : ChangeSpec := { name := "fnRingPointBudget", fn := fun _ => fun
  | [d] => { results := [.lit (.bool false)], args := [d] }
  | _ => none }
def FnRingPointBudgetWrongFalsely : Prop := fnRingPointBudgetRow.holds Try.pinned (OpenSpec.ofChange fnRingPointBudgetWrong)

/-- 'zzlaws_hashring_b1.FnMixInvertible': WHATEVER THE INPUT: true; the input reads as it did. -/
def fnMixInvertibleSpec : ChangeSpec := { name := "fnMixInvertible", fn := fun _ => fun
  | [d] => { results := [.lit (.bool true)], args := [d] }
  | _ => none }
def fnMixInvertibleRow : OpenClaim := { program := "qxb6601581a", sum := "3942d319b3997d59b4860e19d987b429f03d46739089e665d1afa595aa2403b0", func := "example.com/evenhand/evenhand/zzlaws_hashring_b1.FnMixInvertible", spec := "fnMixInvertible", apart := false }
def FnMixInvertibleSaid : Prop := fnMixInvertibleRow.holds Try.pinned (OpenSpec.ofChange fnMixInvertibleSpec)

/-- ITS FALSE NEIGHBOUR: 'it returns false'. Refute it at one input. -/
def fnMixInvertibleWrong : ChangeSpec := { name := "fnMixInvertible", fn := fun _ => fun
  | [d] => { results := [.lit (.bool false)], args := [d] }
  | _ => none }
def FnMixInvertibleWrongFalsely : Prop := fnMixInvertibleRow.holds Try.pinned (OpenSpec.ofChange fnMixInvertibleWrong)

/-- 'zzlaws_hashring_b1.FnTotalPointsOfOneEndpointMatchesPointCount': WHATEVER THE INPUT: true; the input reads as it did. -/
def fnTotalPointsOfOneEndpointMatchesPointCountSpec : ChangeSpec := { name := "fnTotalPointsOfOneEndpointMatchesPointCount", fn := fun _ => fun
  | [d1, d2, d3] => { results := [.lit (.bool true)], args := [d1, d2, d3] }
  | _ => none }
def fnTotalPointsOfOneEndpointMatchesPointCountRow : OpenClaim := { program := "qxb6601581a", sum := "3942d319b3997d59b4860e19d987b429f03d46739089e665d1afa595aa2403b0", func := "example.com/evenhand/evenhand/zzlaws_hashring_b1.FnTotalPointsOfOneEndpointMatchesPointCount", spec := "fnTotalPointsOfOneEndpointMatchesPointCount", apart := false }
def FnTotalPointsOfOneEndpointMatchesPointCountSaid : Prop := fnTotalPointsOfOneEndpointMatchesPointCountRow.holds Try.pinned (OpenSpec.ofChange fnTotalPointsOfOneEndpointMatchesPointCountSpec)

/-- ITS FALSE NEIGHBOUR: 'it returns false'. Refute it at one input. -/
def fnTotalPointsOfOneEndpointMatchesPointCountWrong : ChangeSpec := { name := "fnTotalPointsOfOneEndpointMatchesPointCount", fn := fun _ => fun
  | [d1, d2, d3] => { results := [.lit (.bool false)], args := [d1, d2, d3] }
  | _ => none }
def FnTotalPointsOfOneEndpointMatchesPointCountWrongFalsely : Prop := fnTotalPointsOfOneEndpointMatchesPointCountRow.holds Try.pinned (OpenSpec.ofChange fnTotalPointsOfOneEndpointMatchesPointCountWrong)

end Rows
end Go.Proofs.Qxb6601581a
