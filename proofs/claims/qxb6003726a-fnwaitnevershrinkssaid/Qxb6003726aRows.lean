/-
  No cell of these rows narrows 'for every input' (looked for: loops, veiled, ifaces, maps, wideKeys, modest, calm, conditions, laid).
  DERIVED. THE GIVEN ROWS OF THIS SEAT. 4 by the template 'for every input the law returns true; each argument reads behind the call as it read before'; 0 by the template 'total and deterministic' (their statements: Qxb6003726aTotals.lean).
  GIVEN WITH THE SEED: the statements are not yours to turn. If you find one false, say at which input.
  Laid BY PROGRAM, IN A SANDBOX (cutbox-rows.mjs): the forced cells as the released guide's own fill.sh prints them over the translation fce08057cc5c776d… (all of the seat's roots in one cut). By AI agents, Wed Nov 11 2026. No macro, syntax, notation, axiom, sorry.
-/
import Derived.Test.Qxb6003726aChecked
import GoSem.Claim
import GoSem.ClaimJoined
import GoSem.ClaimMapViews
import Derived.JoinedTies
import Derived.KernelRfl
namespace Go.Proofs.Qxb6003726a
/- THE CELL 'sum', in the pinned program and in every row, IS THE sha256 OF THE DUMP (.gsa) THAT Qxb6003726aProg.lean LOADS. Nothing in Lean hashes anything: it is a label: what it is worth is what the hold of that sum in a sandbox is worth. -/
noncomputable def Try.pinned : Pinned := { name := "qxb6003726a", sum := "fce08057cc5c776d670b60b91bd35b654537ed18cdd607cd1e19b7a083f498bc", checked := Try.checked }
namespace Rows
def none {H : Type} : Left H := { results := [], args := [] }

/-- 'zzlaws_root_g1.FnHoldingOfListsSmallAndSketchesLarge': WHATEVER THE INPUT: true; the input reads as it did. -/
def fnHoldingOfListsSmallAndSketchesLargeSpec : ChangeSpec := { name := "fnHoldingOfListsSmallAndSketchesLarge", fn := fun _ => fun
  | [d] => { results := [.lit (.bool true)], args := [d] }
  | _ => none }
def fnHoldingOfListsSmallAndSketchesLargeRow : OpenClaim := { program := "qxb6003726a", sum := "fce08057cc5c776d670b60b91bd35b654537ed18cdd607cd1e19b7a083f498bc", func := "example.com/riftwatch/riftwatch/zzlaws_root_g1.FnHoldingOfListsSmallAndSketchesLarge", spec := "fnHoldingOfListsSmallAndSketchesLarge", plainKeys := false, apart := false }
def FnHoldingOfListsSmallAndSketchesLargeSaid : Prop := fnHoldingOfListsSmallAndSketchesLargeRow.holds Try.pinned (OpenSpec.ofChange fnHoldingOfListsSmallAndSketchesLargeSpec)

/-- ITS FALSE NEIGHBOUR: 'it returns false'. Refute it at one input. -/
def fnHoldingOfListsSmallAndSketchesLargeWrong : ChangeSpec := { name := "fnHoldingOfListsSmallAndSketchesLarge", fn := fun _ => fun
  | [d] => { results := [.lit (.bool false)], args := [d] }
  | _ => none }
def FnHoldingOfListsSmallAndSketchesLargeWrongFalsely : Prop := fnHoldingOfListsSmallAndSketchesLargeRow.holds Try.pinned (OpenSpec.ofChange fnHoldingOfListsSmallAndSketchesLargeWrong)

/-- 'zzlaws_root_g1.FnMovesTakeWasToNow': WHATEVER THE INPUT: true; the input reads as it did. -/
def fnMovesTakeWasToNowSpec : ChangeSpec := { name := "fnMovesTakeWasToNow", fn := fun _ => fun
  | [d1, d2, d3, d4] => { results := [.lit (.bool true)], args := [d1, d2, d3, d4] }
  | _ => none }
def fnMovesTakeWasToNowRow : OpenClaim := { program := "qxb6003726a", sum := "fce08057cc5c776d670b60b91bd35b654537ed18cdd607cd1e19b7a083f498bc", func := "example.com/riftwatch/riftwatch/zzlaws_root_g1.FnMovesTakeWasToNow", spec := "fnMovesTakeWasToNow", plainKeys := false, apart := false }
def FnMovesTakeWasToNowSaid : Prop := fnMovesTakeWasToNowRow.holds Try.pinned (OpenSpec.ofChange fnMovesTakeWasToNowSpec)

/-- ITS FALSE NEIGHBOUR: 'it returns false'. Refute it at one input. -/
def fnMovesTakeWasToNowWrong : ChangeSpec := { name := "fnMovesTakeWasToNow", fn := fun _ => fun
  | [d1, d2, d3, d4] => { results := [.lit (.bool false)], args := [d1, d2, d3, d4] }
  | _ => none }
def FnMovesTakeWasToNowWrongFalsely : Prop := fnMovesTakeWasToNowRow.holds Try.pinned (OpenSpec.ofChange fnMovesTakeWasToNowWrong)

/-- 'zzlaws_root_g1.FnAppendVouchesReadsBack': WHATEVER THE INPUT: true; the input reads as it did. -/
def fnAppendVouchesReadsBackSpec : ChangeSpec := { name := "fnAppendVouchesReadsBack", fn := fun _ => fun
  | [d1, d2, d3, d4] => { results := [.lit (.bool true)], args := [d1, d2, d3, d4] }
  | _ => none }
def fnAppendVouchesReadsBackRow : OpenClaim := { program := "qxb6003726a", sum := "fce08057cc5c776d670b60b91bd35b654537ed18cdd607cd1e19b7a083f498bc", func := "example.com/riftwatch/riftwatch/zzlaws_root_g1.FnAppendVouchesReadsBack", spec := "fnAppendVouchesReadsBack", plainKeys := false, apart := false }
def FnAppendVouchesReadsBackSaid : Prop := fnAppendVouchesReadsBackRow.holds Try.pinned (OpenSpec.ofChange fnAppendVouchesReadsBackSpec)

/-- ITS FALSE NEIGHBOUR: 'it returns false'. Refute it at one input. -/
def fnAppendVouchesReadsBackWrong : ChangeSpec := { name := "fnAppendVouchesReadsBack", fn := fun _ => fun
  | [d1, d2, d3, d4] => { results := [.lit (.bool false)], args := [d1, d2, d3, d4] }
  | _ => none }
def FnAppendVouchesReadsBackWrongFalsely : Prop := fnAppendVouchesReadsBackRow.holds Try.pinned (OpenSpec.ofChange fnAppendVouchesReadsBackWrong)

/-- 'zzlaws_root_g1.FnWaitNeverShrinks': WHATEVER THE INPUT: true; the input reads as it did. -/
def fnWaitNeverShrinksSpec : ChangeSpec := { name := "fnWaitNeverShrinks", fn := fun _ => fun
  | [d1, d2, d3, d4, d5] => { results := [.lit (.bool true)], args := [d1, d2, d3, d4, d5] }
  | _ => none }
def fnWaitNeverShrinksRow : OpenClaim := { program := "qxb6003726a", sum := "fce08057cc5c776d670b60b91bd35b654537ed18cdd607cd1e19b7a083f498bc", func := "example.com/riftwatch/riftwatch/zzlaws_root_g1.FnWaitNeverShrinks", spec := "fnWaitNeverShrinks", plainKeys := false, apart := false }
def FnWaitNeverShrinksSaid : Prop := fnWaitNeverShrinksRow.holds Try.pinned (OpenSpec.ofChange fnWaitNeverShrinksSpec)

/-- ITS FALSE NEIGHBOUR: 'it returns false'. Refute it at one input. -/
def fnWaitNeverShrinksWrong : ChangeSpec := { name := "fnWaitNeverShrinks", fn := fun _ => fun
  | [d1, d2, d3, d4, d5] => { results := [.lit (.bool false)], args := [d1, d2, d3, d4, d5] }
  | _ => none }
def FnWaitNeverShrinksWrongFalsely : Prop := fnWaitNeverShrinksRow.holds Try.pinned (OpenSpec.ofChange fnWaitNeverShrinksWrong)

end Rows
end Go.Proofs.Qxb6003726a
