/-
  No cell of these rows narrows 'for every input' (looked for: loops, veiled, ifaces, maps, wideKeys, modest, calm, conditions, laid).
  DERIVED. THE GIVEN ROWS OF THIS SEAT. 2 by the template 'for every input the law returns true; each argument reads behind the call as it read before'; 0 by the template 'total and deterministic' (their statements: Qxb6603911aTotals.lean).
  GIVEN WITH THE SEED: the statements are not yours to turn. If you find one false, say at which input.
  Laid BY PROGRAM, IN A SANDBOX (cutbox-rows.mjs): the forced cells as the released guide's own fill.sh prints them over the translation 465a2790725e4927… (all of the seat's roots in one cut). By AI agents, Wed Nov 11 2026. No macro, syntax, notation, axiom, sorry.
-/
import Derived.Test.Qxb6603911aChecked
import GoSem.Claim
import GoSem.ClaimJoined
import GoSem.ClaimMapViews
import Derived.JoinedTies
import Derived.KernelRfl
namespace Go.Proofs.Qxb6603911a
/- THE CELL 'sum', in the pinned program and in every row, IS THE sha256 OF THE DUMP (.gsa) THAT Qxb6603911aProg.lean LOADS. Nothing in Lean hashes anything: it is a label: what it is worth is what the hold of that sum in a sandbox is worth. -/
noncomputable def Try.pinned : Pinned := { name := "qxb6603911a", sum := "465a2790725e4927870b7049818e4b86ae34c6c073b25b04fc60c727ab057bcb", checked := Try.checked }
namespace Rows
def none {H : Type} : Left H := { results := [], args := [] }

/-- 'zzlaws_root_b1.FnOnlyReleasesJoinTheLaneNextSetFollows': WHATEVER THE INPUT: true; the input reads as it did. -/
def fnOnlyReleasesJoinTheLaneNextSetFollowsSpec : ChangeSpec := { name := "fnOnlyReleasesJoinTheLaneNextSetFollows", fn := fun _ => fun
  | [d1, d2, d3] => { results := [.lit (.bool true)], args := [d1, d2, d3] }
  | _ => none }
def fnOnlyReleasesJoinTheLaneNextSetFollowsRow : OpenClaim := { program := "qxb6603911a", sum := "465a2790725e4927870b7049818e4b86ae34c6c073b25b04fc60c727ab057bcb", func := "example.com/wary-lock/wary-lock/zzlaws_root_b1.FnOnlyReleasesJoinTheLaneNextSetFollows", spec := "fnOnlyReleasesJoinTheLaneNextSetFollows", apart := false }
def FnOnlyReleasesJoinTheLaneNextSetFollowsSaid : Prop := fnOnlyReleasesJoinTheLaneNextSetFollowsRow.holds Try.pinned (OpenSpec.ofChange fnOnlyReleasesJoinTheLaneNextSetFollowsSpec)

/-- ITS FALSE NEIGHBOUR: 'it returns false'. Refute it at one input. -/
def fnOnlyReleasesJoinTheLaneNextSetFollowsWrong : ChangeSpec := { name := "fnOnlyReleasesJoinTheLaneNextSetFollows", fn := fun _ => fun
  | [d1, d2, d3] => { results := [.lit (.bool false)], args := [d1, d2, d3] }
  | _ => none }
def FnOnlyReleasesJoinTheLaneNextSetFollowsWrongFalsely : Prop := fnOnlyReleasesJoinTheLaneNextSetFollowsRow.holds Try.pinned (OpenSpec.ofChange fnOnlyReleasesJoinTheLaneNextSetFollowsWrong)

/-- 'zzlaws_root_b1.FnNonSetStepFollowsWhatEveryStepJoins': WHATEVER THE INPUT: true; the input reads as it did. -/
def fnNonSetStepFollowsWhatEveryStepJoinsSpec : ChangeSpec := { name := "fnNonSetStepFollowsWhatEveryStepJoins", fn := fun _ => fun
  | [d1, d2, d3, d4] => { results := [.lit (.bool true)], args := [d1, d2, d3, d4] }
  | _ => none }
def fnNonSetStepFollowsWhatEveryStepJoinsRow : OpenClaim := { program := "qxb6603911a", sum := "465a2790725e4927870b7049818e4b86ae34c6c073b25b04fc60c727ab057bcb", func := "example.com/wary-lock/wary-lock/zzlaws_root_b1.FnNonSetStepFollowsWhatEveryStepJoins", spec := "fnNonSetStepFollowsWhatEveryStepJoins", apart := false }
def FnNonSetStepFollowsWhatEveryStepJoinsSaid : Prop := fnNonSetStepFollowsWhatEveryStepJoinsRow.holds Try.pinned (OpenSpec.ofChange fnNonSetStepFollowsWhatEveryStepJoinsSpec)

/-- ITS FALSE NEIGHBOUR: 'it returns false'. Refute it at one input. -/
def fnNonSetStepFollowsWhatEveryStepJoinsWrong : ChangeSpec := { name := "fnNonSetStepFollowsWhatEveryStepJoins", fn := fun _ => fun
  | [d1, d2, d3, d4] => { results := [.lit (.bool false)], args := [d1, d2, d3, d4] }
  | _ => none }
def FnNonSetStepFollowsWhatEveryStepJoinsWrongFalsely : Prop := fnNonSetStepFollowsWhatEveryStepJoinsRow.holds Try.pinned (OpenSpec.ofChange fnNonSetStepFollowsWhatEveryStepJoinsWrong)

end Rows
end Go.Proofs.Qxb6603911a
