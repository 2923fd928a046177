/-
  No cell of these rows narrows 'for every input' (looked for: loops, veiled, ifaces, maps, wideKeys, modest, calm, conditions, laid).
  DERIVED. THE GIVEN ROWS OF THIS SEAT. 6 by the template 'for every input the law returns true; each argument reads behind the call as it read before'; 0 by the template 'total and deterministic' (their statements: Qxb6001704aTotals.lean).
  GIVEN WITH THE SEED: the statements are not yours to turn. If you find one false, say at which input.
  Laid BY PROGRAM, IN A SANDBOX (cutbox-rows.mjs): the forced cells as the released guide's own fill.sh prints them over the translation 69a410ca175ecd0e… (all of the seat's roots in one cut). By AI agents, Wed Nov 11 2026. No macro, syntax, notation, axiom, sorry.
-/
import Derived.Test.Qxb6001704aChecked
import GoSem.Claim
import GoSem.ClaimJoined
import GoSem.ClaimMapViews
import Derived.JoinedTies
import Derived.KernelRfl
namespace Go.Proofs.Qxb6001704a
/- THE CELL 'sum', in the pinned program and in every row, IS THE sha256 OF THE DUMP (.gsa) THAT Qxb6001704aProg.lean LOADS. Nothing in Lean hashes anything: it is a label: what it is worth is what the hold of that sum in a sandbox is worth. -/
noncomputable def Try.pinned : Pinned := { name := "qxb6001704a", sum := "69a410ca175ecd0eea2515c2745792cc8be5196c22fbba5df5560725bd90a189", checked := Try.checked }
namespace Rows
def none {H : Type} : Left H := { results := [], args := [] }

/-- 'zzlaws_pkg_holdings_b1.FnWidthOfIsLeastOfOneTwoFour': WHATEVER THE INPUT: true; the input reads as it did. -/
def fnWidthOfIsLeastOfOneTwoFourSpec : ChangeSpec := { name := "fnWidthOfIsLeastOfOneTwoFour", fn := fun _ => fun
  | [d] => { results := [.lit (.bool true)], args := [d] }
  | _ => none }
def fnWidthOfIsLeastOfOneTwoFourRow : OpenClaim := { program := "qxb6001704a", sum := "69a410ca175ecd0eea2515c2745792cc8be5196c22fbba5df5560725bd90a189", func := "example.com/tuoguan/tuoguan/zzlaws_pkg_holdings_b1.FnWidthOfIsLeastOfOneTwoFour", spec := "fnWidthOfIsLeastOfOneTwoFour", apart := false }
def FnWidthOfIsLeastOfOneTwoFourSaid : Prop := fnWidthOfIsLeastOfOneTwoFourRow.holds Try.pinned (OpenSpec.ofChange fnWidthOfIsLeastOfOneTwoFourSpec)

/-- ITS FALSE NEIGHBOUR: 'it returns false'. Refute it at one input. -/
def fnWidthOfIsLeastOfOneTwoFourWrong : ChangeSpec := { name := "fnWidthOfIsLeastOfOneTwoFour", fn := fun _ => fun
  | [d] => { results := [.lit (.bool false)], args := [d] }
  | _ => none }
def FnWidthOfIsLeastOfOneTwoFourWrongFalsely : Prop := fnWidthOfIsLeastOfOneTwoFourRow.holds Try.pinned (OpenSpec.ofChange fnWidthOfIsLeastOfOneTwoFourWrong)

/-- 'zzlaws_pkg_holdings_b1.FnWidthOfMonotone': WHATEVER THE INPUT: true; the input reads as it did. -/
def fnWidthOfMonotoneSpec : ChangeSpec := { name := "fnWidthOfMonotone", fn := fun _ => fun
  | [d1, d2] => { results := [.lit (.bool true)], args := [d1, d2] }
  | _ => none }
def fnWidthOfMonotoneRow : OpenClaim := { program := "qxb6001704a", sum := "69a410ca175ecd0eea2515c2745792cc8be5196c22fbba5df5560725bd90a189", func := "example.com/tuoguan/tuoguan/zzlaws_pkg_holdings_b1.FnWidthOfMonotone", spec := "fnWidthOfMonotone", apart := false }
def FnWidthOfMonotoneSaid : Prop := fnWidthOfMonotoneRow.holds Try.pinned (OpenSpec.ofChange fnWidthOfMonotoneSpec)

/-- ITS FALSE NEIGHBOUR: 'it returns false'. Refute it at one input. -/
def fnWidthOfMonotoneWrong : ChangeSpec := { name := "fnWidthOfMonotone", fn := fun _ => fun
  | [d1, d2] => { results := [.lit (.bool false)], args := [d1, d2] }
  | _ => none }
def FnWidthOfMonotoneWrongFalsely : Prop := fnWidthOfMonotoneRow.holds Try.pinned (OpenSpec.ofChange fnWidthOfMonotoneWrong)

/-- 'zzlaws_pkg_holdings_b1.FnIDBytesAtGivesBackEachID': WHATEVER THE INPUT: true; the input reads as it did. -/
def fnIDBytesAtGivesBackEachIDSpec : ChangeSpec := { name := "fnIDBytesAtGivesBackEachID", fn := fun _ => fun
  | [d] => { results := [.lit (.bool true)], args := [d] }
  | _ => none }
def fnIDBytesAtGivesBackEachIDRow : OpenClaim := { program := "qxb6001704a", sum := "69a410ca175ecd0eea2515c2745792cc8be5196c22fbba5df5560725bd90a189", func := "example.com/tuoguan/tuoguan/zzlaws_pkg_holdings_b1.FnIDBytesAtGivesBackEachID", spec := "fnIDBytesAtGivesBackEachID", apart := false }
def FnIDBytesAtGivesBackEachIDSaid : Prop := fnIDBytesAtGivesBackEachIDRow.holds Try.pinned (OpenSpec.ofChange fnIDBytesAtGivesBackEachIDSpec)

/-- ITS FALSE NEIGHBOUR: 'it returns false'. Refute it at one input. -/
def fnIDBytesAtGivesBackEachIDWrong : ChangeSpec := { name := "fnIDBytesAtGivesBackEachID", fn := fun _ => fun
  | [d] => { results := [.lit (.bool false)], args := [d] }
  | _ => none }
def FnIDBytesAtGivesBackEachIDWrongFalsely : Prop := fnIDBytesAtGivesBackEachIDRow.holds Try.pinned (OpenSpec.ofChange fnIDBytesAtGivesBackEachIDWrong)

/-- 'zzlaws_pkg_holdings_b1.FnIDBytesAtTilesText': WHATEVER THE INPUT: true; the input reads as it did. -/
def fnIDBytesAtTilesTextSpec : ChangeSpec := { name := "fnIDBytesAtTilesText", fn := fun _ => fun
  | [d1, d2] => { results := [.lit (.bool true)], args := [d1, d2] }
  | _ => none }
def fnIDBytesAtTilesTextRow : OpenClaim := { program := "qxb6001704a", sum := "69a410ca175ecd0eea2515c2745792cc8be5196c22fbba5df5560725bd90a189", func := "example.com/tuoguan/tuoguan/zzlaws_pkg_holdings_b1.FnIDBytesAtTilesText", spec := "fnIDBytesAtTilesText", apart := false }
def FnIDBytesAtTilesTextSaid : Prop := fnIDBytesAtTilesTextRow.holds Try.pinned (OpenSpec.ofChange fnIDBytesAtTilesTextSpec)

/-- ITS FALSE NEIGHBOUR: 'it returns false'. Refute it at one input. -/
def fnIDBytesAtTilesTextWrong : ChangeSpec := { name := "fnIDBytesAtTilesText", fn := fun _ => fun
  | [d1, d2] => { results := [.lit (.bool false)], args := [d1, d2] }
  | _ => none }
def FnIDBytesAtTilesTextWrongFalsely : Prop := fnIDBytesAtTilesTextRow.holds Try.pinned (OpenSpec.ofChange fnIDBytesAtTilesTextWrong)

/-- 'zzlaws_pkg_holdings_b1.FnNewColumnValuesShape': WHATEVER THE INPUT: true; the input reads as it did. -/
def fnNewColumnValuesShapeSpec : ChangeSpec := { name := "fnNewColumnValuesShape", fn := fun _ => fun
  | [d] => { results := [.lit (.bool true)], args := [d] }
  | _ => none }
def fnNewColumnValuesShapeRow : OpenClaim := { program := "qxb6001704a", sum := "69a410ca175ecd0eea2515c2745792cc8be5196c22fbba5df5560725bd90a189", func := "example.com/tuoguan/tuoguan/zzlaws_pkg_holdings_b1.FnNewColumnValuesShape", spec := "fnNewColumnValuesShape", apart := false }
def FnNewColumnValuesShapeSaid : Prop := fnNewColumnValuesShapeRow.holds Try.pinned (OpenSpec.ofChange fnNewColumnValuesShapeSpec)

/-- ITS FALSE NEIGHBOUR: 'it returns false'. Refute it at one input. -/
def fnNewColumnValuesShapeWrong : ChangeSpec := { name := "fnNewColumnValuesShape", fn := fun _ => fun
  | [d] => { results := [.lit (.bool false)], args := [d] }
  | _ => none }
def FnNewColumnValuesShapeWrongFalsely : Prop := fnNewColumnValuesShapeRow.holds Try.pinned (OpenSpec.ofChange fnNewColumnValuesShapeWrong)

/-- 'zzlaws_pkg_holdings_b1.FnNewColumnValuesIndependent': WHATEVER THE INPUT: true; the input reads as it did. -/
def fnNewColumnValuesIndependentSpec : ChangeSpec := { name := "fnNewColumnValuesIndependent", fn := fun _ => fun
  | [d] => { results := [.lit (.bool true)], args := [d] }
  | _ => none }
def fnNewColumnValuesIndependentRow : OpenClaim := { program := "qxb6001704a", sum := "69a410ca175ecd0eea2515c2745792cc8be5196c22fbba5df5560725bd90a189", func := "example.com/tuoguan/tuoguan/zzlaws_pkg_holdings_b1.FnNewColumnValuesIndependent", spec := "fnNewColumnValuesIndependent", apart := false }
def FnNewColumnValuesIndependentSaid : Prop := fnNewColumnValuesIndependentRow.holds Try.pinned (OpenSpec.ofChange fnNewColumnValuesIndependentSpec)

/-- ITS FALSE NEIGHBOUR: 'it returns false'. Refute it at one input. -/
def fnNewColumnValuesIndependentWrong : ChangeSpec := { name := "fnNewColumnValuesIndependent", fn := fun _ => fun
  | [d] => { results := [.lit (.bool false)], args := [d] }
  | _ => none }
def FnNewColumnValuesIndependentWrongFalsely : Prop := fnNewColumnValuesIndependentRow.holds Try.pinned (OpenSpec.ofChange fnNewColumnValuesIndependentWrong)

end Rows
end Go.Proofs.Qxb6001704a
