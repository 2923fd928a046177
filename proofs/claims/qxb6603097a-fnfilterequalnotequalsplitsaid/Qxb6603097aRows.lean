/-
  No cell of these rows narrows 'for every input' (looked for: loops, veiled, ifaces, maps, wideKeys, modest, calm, conditions, laid).
  DERIVED. THE GIVEN ROWS OF THIS SEAT. 4 by the template 'for every input the law returns true; each argument reads behind the call as it read before'; 0 by the template 'total and deterministic' (their statements: Qxb6603097aTotals.lean).
  GIVEN WITH THE SEED: the statements are not yours to turn. If you find one false, say at which input.
  Laid BY PROGRAM, IN A SANDBOX (cutbox-rows.mjs): the forced cells as the released guide's own fill.sh prints them over the translation 5f70473a06612b58… (all of the seat's roots in one cut). By AI agents, Wed Nov 11 2026. No macro, syntax, notation, axiom, sorry.
-/
import Derived.Test.Qxb6603097aChecked
import GoSem.Claim
import GoSem.ClaimJoined
import GoSem.ClaimMapViews
import Derived.JoinedTies
import Derived.KernelRfl
namespace Go.Proofs.Qxb6603097a
/- THE CELL 'sum', in the pinned program and in every row, IS THE sha256 OF THE DUMP (.gsa) THAT Qxb6603097aProg.lean LOADS. Nothing in Lean hashes anything: it is a label: what it is worth is what the hold of that sum in a sandbox is worth. -/
noncomputable def Try.pinned : Pinned := { name := "qxb6603097a", sum := "5f70473a06612b58840da66969a6974d6f8e942c3e648ac1c1c211317c2c87bf", checked := Try.checked }
namespace Rows
def none {H : Type} : Left H := { results := [], args := [] }

/-- 'zzlaws_root_b1.FnFilterEqualNotEqualSplit': WHATEVER THE INPUT: true; the input reads as it did. -/
def fnFilterEqualNotEqualSplitSpec : ChangeSpec := { name := "fnFilterEqualNotEqualSplit", fn := fun _ => fun
  | [d1, d2, d3, d4, d5, d6, d7, d8] => { results := [.lit (.bool true)], args := [d1, d2, d3, d4, d5, d6, d7, d8] }
  | _ => none }
def fnFilterEqualNotEqualSplitRow : OpenClaim := { program := "qxb6603097a", sum := "5f70473a06612b58840da66969a6974d6f8e942c3e648ac1c1c211317c2c87bf", func := "example.com/isimud/isimud/zzlaws_root_b1.FnFilterEqualNotEqualSplit", spec := "fnFilterEqualNotEqualSplit", unfollowed := true, recurses := true, apart := false }
def FnFilterEqualNotEqualSplitSaid : Prop := fnFilterEqualNotEqualSplitRow.holds Try.pinned (OpenSpec.ofChange fnFilterEqualNotEqualSplitSpec)

/-- ITS FALSE NEIGHBOUR: 'it returns false'. Refute it at one input. -/
def fnFilterEqualNotEqualSplitWrong : ChangeSpec := { name := "fnFilterEqualNotEqualSplit", fn := fun _ => fun
  | [d1, d2, d3, d4, d5, d6, d7, d8] => { results := [.lit (.bool false)], args := [d1, d2, d3, d4, d5, d6, d7, d8] }
  | _ => none }
def FnFilterEqualNotEqualSplitWrongFalsely : Prop := fnFilterEqualNotEqualSplitRow.holds Try.pinned (OpenSpec.ofChange fnFilterEqualNotEqualSplitWrong)

/-- 'zzlaws_root_b1.FnFilterReadsOnlyItsHeaders': WHATEVER THE INPUT: true; the input reads as it did. -/
def fnFilterReadsOnlyItsHeadersSpec : ChangeSpec := { name := "fnFilterReadsOnlyItsHeaders", fn := fun _ => fun
  | [d1, d2, d3, d4, d5, d6, d7, d8, d9, d10, d11, d12] => { results := [.lit (.bool true)], args := [d1, d2, d3, d4, d5, d6, d7, d8, d9, d10, d11, d12] }
  | _ => none }
def fnFilterReadsOnlyItsHeadersRow : OpenClaim := { program := "qxb6603097a", sum := "5f70473a06612b58840da66969a6974d6f8e942c3e648ac1c1c211317c2c87bf", func := "example.com/isimud/isimud/zzlaws_root_b1.FnFilterReadsOnlyItsHeaders", spec := "fnFilterReadsOnlyItsHeaders", unfollowed := true, recurses := true, apart := false }
def FnFilterReadsOnlyItsHeadersSaid : Prop := fnFilterReadsOnlyItsHeadersRow.holds Try.pinned (OpenSpec.ofChange fnFilterReadsOnlyItsHeadersSpec)

/-- ITS FALSE NEIGHBOUR: 'it returns false'. Refute it at one input. -/
def fnFilterReadsOnlyItsHeadersWrong : ChangeSpec := { name := "fnFilterReadsOnlyItsHeaders", fn := fun _ => fun
  | [d1, d2, d3, d4, d5, d6, d7, d8, d9, d10, d11, d12] => { results := [.lit (.bool false)], args := [d1, d2, d3, d4, d5, d6, d7, d8, d9, d10, d11, d12] }
  | _ => none }
def FnFilterReadsOnlyItsHeadersWrongFalsely : Prop := fnFilterReadsOnlyItsHeadersRow.holds Try.pinned (OpenSpec.ofChange fnFilterReadsOnlyItsHeadersWrong)

/-- 'zzlaws_root_b1.FnRecordAppliesOrderFree': WHATEVER THE INPUT: true; the input reads as it did. -/
def fnRecordAppliesOrderFreeSpec : ChangeSpec := { name := "fnRecordAppliesOrderFree", fn := fun _ => fun
  | [d1, d2, d3, d4, d5, d6, d7, d8, d9, d10] => { results := [.lit (.bool true)], args := [d1, d2, d3, d4, d5, d6, d7, d8, d9, d10] }
  | _ => none }
def fnRecordAppliesOrderFreeRow : OpenClaim := { program := "qxb6603097a", sum := "5f70473a06612b58840da66969a6974d6f8e942c3e648ac1c1c211317c2c87bf", func := "example.com/isimud/isimud/zzlaws_root_b1.FnRecordAppliesOrderFree", spec := "fnRecordAppliesOrderFree", unfollowed := true, recurses := true, apart := false }
def FnRecordAppliesOrderFreeSaid : Prop := fnRecordAppliesOrderFreeRow.holds Try.pinned (OpenSpec.ofChange fnRecordAppliesOrderFreeSpec)

/-- ITS FALSE NEIGHBOUR: 'it returns false'. Refute it at one input. -/
def fnRecordAppliesOrderFreeWrong : ChangeSpec := { name := "fnRecordAppliesOrderFree", fn := fun _ => fun
  | [d1, d2, d3, d4, d5, d6, d7, d8, d9, d10] => { results := [.lit (.bool false)], args := [d1, d2, d3, d4, d5, d6, d7, d8, d9, d10] }
  | _ => none }
def FnRecordAppliesOrderFreeWrongFalsely : Prop := fnRecordAppliesOrderFreeRow.holds Try.pinned (OpenSpec.ofChange fnRecordAppliesOrderFreeWrong)

/-- 'zzlaws_root_b1.FnRecordAppliesMonotone': WHATEVER THE INPUT: true; the input reads as it did. -/
def fnRecordAppliesMonotoneSpec : ChangeSpec := { name := "fnRecordAppliesMonotone", fn := fun _ => fun
  | [d1, d2, d3, d4, d5, d6, d7, d8, d9, d10, d11] => { results := [.lit (.bool true)], args := [d1, d2, d3, d4, d5, d6, d7, d8, d9, d10, d11] }
  | _ => none }
def fnRecordAppliesMonotoneRow : OpenClaim := { program := "qxb6603097a", sum := "5f70473a06612b58840da66969a6974d6f8e942c3e648ac1c1c211317c2c87bf", func := "example.com/isimud/isimud/zzlaws_root_b1.FnRecordAppliesMonotone", spec := "fnRecordAppliesMonotone", unfollowed := true, recurses := true, apart := false }
def FnRecordAppliesMonotoneSaid : Prop := fnRecordAppliesMonotoneRow.holds Try.pinned (OpenSpec.ofChange fnRecordAppliesMonotoneSpec)

/-- ITS FALSE NEIGHBOUR: 'it returns false'. Refute it at one input. -/
def fnRecordAppliesMonotoneWrong : ChangeSpec := { name := "fnRecordAppliesMonotone", fn := fun _ => fun
  | [d1, d2, d3, d4, d5, d6, d7, d8, d9, d10, d11] => { results := [.lit (.bool false)], args := [d1, d2, d3, d4, d5, d6, d7, d8, d9, d10, d11] }
  | _ => none }
def FnRecordAppliesMonotoneWrongFalsely : Prop := fnRecordAppliesMonotoneRow.holds Try.pinned (OpenSpec.ofChange fnRecordAppliesMonotoneWrong)

end Rows
end Go.Proofs.Qxb6603097a
