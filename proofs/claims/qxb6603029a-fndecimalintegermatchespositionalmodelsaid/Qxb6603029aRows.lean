/-
  No cell of these rows narrows 'for every input' (looked for: loops, veiled, ifaces, maps, wideKeys, modest, calm, conditions, laid).
  DERIVED. THE GIVEN ROWS OF THIS SEAT. 3 by the template 'for every input the law returns true; each argument reads behind the call as it read before'; 0 by the template 'total and deterministic' (their statements: Qxb6603029aTotals.lean).
  GIVEN WITH THE SEED: the statements are not yours to turn. If you find one false, say at which input.
  Laid BY PROGRAM, IN A SANDBOX (cutbox-rows.mjs): the forced cells as the released guide's own fill.sh prints them over the translation 90b3d3a61fb5217e… (all of the seat's roots in one cut). By AI agents, Wed Nov 11 2026. No macro, syntax, notation, axiom, sorry.
-/
import Derived.Test.Qxb6603029aChecked
import GoSem.Claim
import GoSem.ClaimJoined
import GoSem.ClaimMapViews
import Derived.JoinedTies
import Derived.KernelRfl
namespace Go.Proofs.Qxb6603029a
/- THE CELL 'sum', in the pinned program and in every row, IS THE sha256 OF THE DUMP (.gsa) THAT Qxb6603029aProg.lean LOADS. Nothing in Lean hashes anything: it is a label: what it is worth is what the hold of that sum in a sandbox is worth. -/
noncomputable def Try.pinned : Pinned := { name := "qxb6603029a", sum := "90b3d3a61fb5217e8179aa0f2c2e8394569655de94e54a94eed716ddb81514d3", checked := Try.checked }
namespace Rows
def none {H : Type} : Left H := { results := [], args := [] }

/-- 'zzlaws_flags_b1.FnParseExponentMatchesModel': WHATEVER THE INPUT: true; the input reads as it did. -/
def fnParseExponentMatchesModelSpec : ChangeSpec := { name := "fnParseExponentMatchesModel", fn := fun _ => fun
  | [d] => { results := [.lit (.bool true)], args := [d] }
  | _ => none }
def fnParseExponentMatchesModelRow : OpenClaim := { program := "qxb6603029a", sum := "90b3d3a61fb5217e8179aa0f2c2e8394569655de94e54a94eed716ddb81514d3", func := "example.com/norn/norn/zzlaws_flags_b1.FnParseExponentMatchesModel", spec := "fnParseExponentMatchesModel", apart := false }
def FnParseExponentMatchesModelSaid : Prop := fnParseExponentMatchesModelRow.holds Try.pinned (OpenSpec.ofChange fnParseExponentMatchesModelSpec)

/-- ITS FALSE NEIGHBOUR: 'it returns false'. Refute it at one input. -/
def fnParseExponentMatchesModelWrong : ChangeSpec := { name := "fnParseExponentMatchesModel", fn := fun _ => fun
  | [d] => { results := [.lit (.bool false)], args := [d] }
  | _ => none }
def FnParseExponentMatchesModelWrongFalsely : Prop := fnParseExponentMatchesModelRow.holds Try.pinned (OpenSpec.ofChange fnParseExponentMatchesModelWrong)

/-- 'zzlaws_flags_b1.FnDecimalIntegerMatchesPositionalModel': WHATEVER THE INPUT: true; the input reads as it did. -/
def fnDecimalIntegerMatchesPositionalModelSpec : ChangeSpec := { name := "fnDecimalIntegerMatchesPositionalModel", fn := fun _ => fun
  | [d1, d2, d3, d4, d5] => { results := [.lit (.bool true)], args := [d1, d2, d3, d4, d5] }
  | _ => none }
def fnDecimalIntegerMatchesPositionalModelRow : OpenClaim := { program := "qxb6603029a", sum := "90b3d3a61fb5217e8179aa0f2c2e8394569655de94e54a94eed716ddb81514d3", func := "example.com/norn/norn/zzlaws_flags_b1.FnDecimalIntegerMatchesPositionalModel", spec := "fnDecimalIntegerMatchesPositionalModel", inPlace := ["internal/abi.NoEscape", "internal/bytealg.MakeNoZero"], apart := false }
def FnDecimalIntegerMatchesPositionalModelSaid : Prop := fnDecimalIntegerMatchesPositionalModelRow.holds Try.pinned (OpenSpec.ofChange fnDecimalIntegerMatchesPositionalModelSpec)

/-- ITS FALSE NEIGHBOUR: 'it returns false'. Refute it at one input. -/
def fnDecimalIntegerMatchesPositionalModelWrong : ChangeSpec := { name := "fnDecimalIntegerMatchesPositionalModel", fn := fun _ => fun
  | [d1, d2, d3, d4, d5] => { results := [.lit (.bool false)], args := [d1, d2, d3, d4, d5] }
  | _ => none }
def FnDecimalIntegerMatchesPositionalModelWrongFalsely : Prop := fnDecimalIntegerMatchesPositionalModelRow.holds Try.pinned (OpenSpec.ofChange fnDecimalIntegerMatchesPositionalModelWrong)

/-- 'zzlaws_flags_b1.FnDecimalIntegerRoomAndTenfold': WHATEVER THE INPUT: true; the input reads as it did. -/
def fnDecimalIntegerRoomAndTenfoldSpec : ChangeSpec := { name := "fnDecimalIntegerRoomAndTenfold", fn := fun _ => fun
  | [d1, d2, d3, d4, d5] => { results := [.lit (.bool true)], args := [d1, d2, d3, d4, d5] }
  | _ => none }
def fnDecimalIntegerRoomAndTenfoldRow : OpenClaim := { program := "qxb6603029a", sum := "90b3d3a61fb5217e8179aa0f2c2e8394569655de94e54a94eed716ddb81514d3", func := "example.com/norn/norn/zzlaws_flags_b1.FnDecimalIntegerRoomAndTenfold", spec := "fnDecimalIntegerRoomAndTenfold", inPlace := ["internal/abi.NoEscape", "internal/bytealg.MakeNoZero"], apart := false }
def FnDecimalIntegerRoomAndTenfoldSaid : Prop := fnDecimalIntegerRoomAndTenfoldRow.holds Try.pinned (OpenSpec.ofChange fnDecimalIntegerRoomAndTenfoldSpec)

/-- ITS FALSE NEIGHBOUR: 'it returns false'. Refute it at one input. -/
def fnDecimalIntegerRoomAndTenfoldWrong : ChangeSpec := { name := "fnDecimalIntegerRoomAndTenfold", fn := fun _ => fun
  | [d1, d2, d3, d4, d5] => { results := [.lit (.bool false)], args := [d1, d2, d3, d4, d5] }
  | _ => none }
def FnDecimalIntegerRoomAndTenfoldWrongFalsely : Prop := fnDecimalIntegerRoomAndTenfoldRow.holds Try.pinned (OpenSpec.ofChange fnDecimalIntegerRoomAndTenfoldWrong)

end Rows
end Go.Proofs.Qxb6603029a
