/-
  No cell of these rows narrows 'for every input' (looked for: loops, veiled, ifaces, maps, wideKeys, modest, calm, conditions, laid).
  DERIVED. THE GIVEN ROWS OF THIS SEAT. 5 by the template 'for every input the law returns true; each argument reads behind the call as it read before'; 0 by the template 'total and deterministic' (their statements: Qxb6001701aTotals.lean).
  GIVEN WITH THE SEED: the statements are not yours to turn. If you find one false, say at which input.
  Laid BY PROGRAM, IN A SANDBOX (cutbox-rows.mjs): the forced cells as the released guide's own fill.sh prints them over the translation 3d9c768149c6d6ed… (all of the seat's roots in one cut). By AI agents, Wed Nov 11 2026. No macro, syntax, notation, axiom, sorry.
-/
import Derived.Test.Qxb6001701aChecked
import GoSem.Claim
import GoSem.ClaimJoined
import GoSem.ClaimMapViews
import Derived.JoinedTies
import Derived.KernelRfl
namespace Go.Proofs.Qxb6001701a
/- THE CELL 'sum', in the pinned program and in every row, IS THE sha256 OF THE DUMP (.gsa) THAT Qxb6001701aProg.lean LOADS. Nothing in Lean hashes anything: it is a label: what it is worth is what the hold of that sum in a sandbox is worth. -/
noncomputable def Try.pinned : Pinned := { name := "qxb6001701a", sum := "3d9c768149c6d6ed7759790ed154162429329fd3ab36a12d182a0934cac648f2", checked := Try.checked }
namespace Rows
def none {H : Type} : Left H := { results := [], args := [] }

/-- 'zzlaws_pkg_rules_b1.FnJoinIsAMonoid': WHATEVER THE INPUT: true; the input reads as it did. -/
def fnJoinIsAMonoidSpec : ChangeSpec := { name := "fnJoinIsAMonoid", fn := fun _ => fun
  | [d1, d2, d3] => { results := [.lit (.bool true)], args := [d1, d2, d3] }
  | _ => none }
def fnJoinIsAMonoidRow : OpenClaim := { program := "qxb6001701a", sum := "3d9c768149c6d6ed7759790ed154162429329fd3ab36a12d182a0934cac648f2", func := "example.com/tuoguan/tuoguan/zzlaws_pkg_rules_b1.FnJoinIsAMonoid", spec := "fnJoinIsAMonoid", apart := false }
def FnJoinIsAMonoidSaid : Prop := fnJoinIsAMonoidRow.holds Try.pinned (OpenSpec.ofChange fnJoinIsAMonoidSpec)

/-- ITS FALSE NEIGHBOUR: 'it returns false'. Refute it at one input. -/
def fnJoinIsAMonoidWrong : ChangeSpec := { name := "fnJoinIsAMonoid", fn := fun _ => fun
  | [d1, d2, d3] => { results := [.lit (.bool false)], args := [d1, d2, d3] }
  | _ => none }
def FnJoinIsAMonoidWrongFalsely : Prop := fnJoinIsAMonoidRow.holds Try.pinned (OpenSpec.ofChange fnJoinIsAMonoidWrong)

/-- 'zzlaws_pkg_rules_b1.FnMaturityKeysMeanTheirNames': WHATEVER THE INPUT: true; the input reads as it did. -/
def fnMaturityKeysMeanTheirNamesSpec : ChangeSpec := { name := "fnMaturityKeysMeanTheirNames", fn := fun _ => fun
  | [d1, d2, d3, d4, d5, d6] => { results := [.lit (.bool true)], args := [d1, d2, d3, d4, d5, d6] }
  | _ => none }
def fnMaturityKeysMeanTheirNamesRow : OpenClaim := { program := "qxb6001701a", sum := "3d9c768149c6d6ed7759790ed154162429329fd3ab36a12d182a0934cac648f2", func := "example.com/tuoguan/tuoguan/zzlaws_pkg_rules_b1.FnMaturityKeysMeanTheirNames", spec := "fnMaturityKeysMeanTheirNames", apart := false }
def FnMaturityKeysMeanTheirNamesSaid : Prop := fnMaturityKeysMeanTheirNamesRow.holds Try.pinned (OpenSpec.ofChange fnMaturityKeysMeanTheirNamesSpec)

/-- ITS FALSE NEIGHBOUR: 'it returns false'. Refute it at one input. -/
def fnMaturityKeysMeanTheirNamesWrong : ChangeSpec := { name := "fnMaturityKeysMeanTheirNames", fn := fun _ => fun
  | [d1, d2, d3, d4, d5, d6] => { results := [.lit (.bool false)], args := [d1, d2, d3, d4, d5, d6] }
  | _ => none }
def FnMaturityKeysMeanTheirNamesWrongFalsely : Prop := fnMaturityKeysMeanTheirNamesRow.holds Try.pinned (OpenSpec.ofChange fnMaturityKeysMeanTheirNamesWrong)

/-- 'zzlaws_pkg_rules_b1.FnMaturityTestsAreTheGivenOnesLowerFirst': WHATEVER THE INPUT: true; the input reads as it did. -/
def fnMaturityTestsAreTheGivenOnesLowerFirstSpec : ChangeSpec := { name := "fnMaturityTestsAreTheGivenOnesLowerFirst", fn := fun _ => fun
  | [d1, d2, d3, d4] => { results := [.lit (.bool true)], args := [d1, d2, d3, d4] }
  | _ => none }
def fnMaturityTestsAreTheGivenOnesLowerFirstRow : OpenClaim := { program := "qxb6001701a", sum := "3d9c768149c6d6ed7759790ed154162429329fd3ab36a12d182a0934cac648f2", func := "example.com/tuoguan/tuoguan/zzlaws_pkg_rules_b1.FnMaturityTestsAreTheGivenOnesLowerFirst", spec := "fnMaturityTestsAreTheGivenOnesLowerFirst", apart := false }
def FnMaturityTestsAreTheGivenOnesLowerFirstSaid : Prop := fnMaturityTestsAreTheGivenOnesLowerFirstRow.holds Try.pinned (OpenSpec.ofChange fnMaturityTestsAreTheGivenOnesLowerFirstSpec)

/-- ITS FALSE NEIGHBOUR: 'it returns false'. Refute it at one input. -/
def fnMaturityTestsAreTheGivenOnesLowerFirstWrong : ChangeSpec := { name := "fnMaturityTestsAreTheGivenOnesLowerFirst", fn := fun _ => fun
  | [d1, d2, d3, d4] => { results := [.lit (.bool false)], args := [d1, d2, d3, d4] }
  | _ => none }
def FnMaturityTestsAreTheGivenOnesLowerFirstWrongFalsely : Prop := fnMaturityTestsAreTheGivenOnesLowerFirstRow.holds Try.pinned (OpenSpec.ofChange fnMaturityTestsAreTheGivenOnesLowerFirstWrong)

/-- 'zzlaws_pkg_rules_b1.FnDigitsTakesTheWholeRun': WHATEVER THE INPUT: true; the input reads as it did. -/
def fnDigitsTakesTheWholeRunSpec : ChangeSpec := { name := "fnDigitsTakesTheWholeRun", fn := fun _ => fun
  | [d1, d2] => { results := [.lit (.bool true)], args := [d1, d2] }
  | _ => none }
def fnDigitsTakesTheWholeRunRow : OpenClaim := { program := "qxb6001701a", sum := "3d9c768149c6d6ed7759790ed154162429329fd3ab36a12d182a0934cac648f2", func := "example.com/tuoguan/tuoguan/zzlaws_pkg_rules_b1.FnDigitsTakesTheWholeRun", spec := "fnDigitsTakesTheWholeRun", apart := false }
def FnDigitsTakesTheWholeRunSaid : Prop := fnDigitsTakesTheWholeRunRow.holds Try.pinned (OpenSpec.ofChange fnDigitsTakesTheWholeRunSpec)

/-- ITS FALSE NEIGHBOUR: 'it returns false'. Refute it at one input. -/
def fnDigitsTakesTheWholeRunWrong : ChangeSpec := { name := "fnDigitsTakesTheWholeRun", fn := fun _ => fun
  | [d1, d2] => { results := [.lit (.bool false)], args := [d1, d2] }
  | _ => none }
def FnDigitsTakesTheWholeRunWrongFalsely : Prop := fnDigitsTakesTheWholeRunRow.holds Try.pinned (OpenSpec.ofChange fnDigitsTakesTheWholeRunWrong)

/-- 'zzlaws_pkg_rules_b1.FnDigitsSplitsAtAJoin': WHATEVER THE INPUT: true; the input reads as it did. -/
def fnDigitsSplitsAtAJoinSpec : ChangeSpec := { name := "fnDigitsSplitsAtAJoin", fn := fun _ => fun
  | [d1, d2, d3] => { results := [.lit (.bool true)], args := [d1, d2, d3] }
  | _ => none }
def fnDigitsSplitsAtAJoinRow : OpenClaim := { program := "qxb6001701a", sum := "3d9c768149c6d6ed7759790ed154162429329fd3ab36a12d182a0934cac648f2", func := "example.com/tuoguan/tuoguan/zzlaws_pkg_rules_b1.FnDigitsSplitsAtAJoin", spec := "fnDigitsSplitsAtAJoin", apart := false }
def FnDigitsSplitsAtAJoinSaid : Prop := fnDigitsSplitsAtAJoinRow.holds Try.pinned (OpenSpec.ofChange fnDigitsSplitsAtAJoinSpec)

/-- ITS FALSE NEIGHBOUR: 'it returns false'. Refute it at one input. -/
def fnDigitsSplitsAtAJoinWrong : ChangeSpec := { name := "fnDigitsSplitsAtAJoin", fn := fun _ => fun
  | [d1, d2, d3] => { results := [.lit (.bool false)], args := [d1, d2, d3] }
  | _ => none }
def FnDigitsSplitsAtAJoinWrongFalsely : Prop := fnDigitsSplitsAtAJoinRow.holds Try.pinned (OpenSpec.ofChange fnDigitsSplitsAtAJoinWrong)

end Rows
end Go.Proofs.Qxb6001701a
