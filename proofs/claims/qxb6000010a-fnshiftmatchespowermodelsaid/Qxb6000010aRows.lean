/-
  No cell of these rows narrows 'for every input' (looked for: loops, veiled, ifaces, maps, wideKeys, modest, calm, conditions, laid).
  DERIVED. THE GIVEN ROWS OF THIS SEAT. 8 by the template 'for every input the law returns true; each argument reads behind the call as it read before'; 0 by the template 'total and deterministic' (their statements: Qxb6000010aTotals.lean).
  GIVEN WITH THE SEED: the statements are not yours to turn. If you find one false, say at which input.
  Laid BY PROGRAM, IN A SANDBOX (cutbox-rows.mjs): the forced cells as the released guide's own fill.sh prints them over the translation a3b2a725f2346c83… (all of the seat's roots in one cut). By AI agents, Wed Nov 11 2026. No macro, syntax, notation, axiom, sorry.
-/
import Derived.Test.Qxb6000010aChecked
import GoSem.Claim
import GoSem.ClaimJoined
import GoSem.ClaimMapViews
import Derived.JoinedTies
import Derived.KernelRfl
namespace Go.Proofs.Qxb6000010a
/- THE CELL 'sum', in the pinned program and in every row, IS THE sha256 OF THE DUMP (.gsa) THAT Qxb6000010aProg.lean LOADS. Nothing in Lean hashes anything: it is a label: what it is worth is what the hold of that sum in a sandbox is worth. -/
noncomputable def Try.pinned : Pinned := { name := "qxb6000010a", sum := "a3b2a725f2346c83dbadc349a69ce2c236228f3eccae55d988bb8a73ed3b7e6a", checked := Try.checked }
namespace Rows
def none {H : Type} : Left H := { results := [], args := [] }

/-- 'zzlaws_internal_checksum_b1.FnTimesXMatchesModel': WHATEVER THE INPUT: true; the input reads as it did. -/
def fnTimesXMatchesModelSpec : ChangeSpec := { name := "fnTimesXMatchesModel", fn := fun _ => fun
  | [d1, d2, d3] => { results := [.lit (.bool true)], args := [d1, d2, d3] }
  | _ => none }
def fnTimesXMatchesModelRow : OpenClaim := { program := "qxb6000010a", sum := "a3b2a725f2346c83dbadc349a69ce2c236228f3eccae55d988bb8a73ed3b7e6a", func := "example.com/branches-over-buckets/branches-over-buckets/zzlaws_internal_checksum_b1.FnTimesXMatchesModel", spec := "fnTimesXMatchesModel", apart := false }
def FnTimesXMatchesModelSaid : Prop := fnTimesXMatchesModelRow.holds Try.pinned (OpenSpec.ofChange fnTimesXMatchesModelSpec)

/-- ITS FALSE NEIGHBOUR: 'it returns false'. Refute it at one input. -/
def fnTimesXMatchesModelWrong : ChangeSpec := { name := "fnTimesXMatchesModel", fn := fun _ => fun
  | [d1, d2, d3] => { results := [.lit (.bool false)], args := [d1, d2, d3] }
  | _ => none }
def FnTimesXMatchesModelWrongFalsely : Prop := fnTimesXMatchesModelRow.holds Try.pinned (OpenSpec.ofChange fnTimesXMatchesModelWrong)

/-- 'zzlaws_internal_checksum_b1.FnTimesXIsLinear': WHATEVER THE INPUT: true; the input reads as it did. -/
def fnTimesXIsLinearSpec : ChangeSpec := { name := "fnTimesXIsLinear", fn := fun _ => fun
  | [d1, d2, d3, d4] => { results := [.lit (.bool true)], args := [d1, d2, d3, d4] }
  | _ => none }
def fnTimesXIsLinearRow : OpenClaim := { program := "qxb6000010a", sum := "a3b2a725f2346c83dbadc349a69ce2c236228f3eccae55d988bb8a73ed3b7e6a", func := "example.com/branches-over-buckets/branches-over-buckets/zzlaws_internal_checksum_b1.FnTimesXIsLinear", spec := "fnTimesXIsLinear", apart := false }
def FnTimesXIsLinearSaid : Prop := fnTimesXIsLinearRow.holds Try.pinned (OpenSpec.ofChange fnTimesXIsLinearSpec)

/-- ITS FALSE NEIGHBOUR: 'it returns false'. Refute it at one input. -/
def fnTimesXIsLinearWrong : ChangeSpec := { name := "fnTimesXIsLinear", fn := fun _ => fun
  | [d1, d2, d3, d4] => { results := [.lit (.bool false)], args := [d1, d2, d3, d4] }
  | _ => none }
def FnTimesXIsLinearWrongFalsely : Prop := fnTimesXIsLinearRow.holds Try.pinned (OpenSpec.ofChange fnTimesXIsLinearWrong)

/-- 'zzlaws_internal_checksum_b1.FnTimesMatchesModel': WHATEVER THE INPUT: true; the input reads as it did. -/
def fnTimesMatchesModelSpec : ChangeSpec := { name := "fnTimesMatchesModel", fn := fun _ => fun
  | [d1, d2, d3, d4] => { results := [.lit (.bool true)], args := [d1, d2, d3, d4] }
  | _ => none }
def fnTimesMatchesModelRow : OpenClaim := { program := "qxb6000010a", sum := "a3b2a725f2346c83dbadc349a69ce2c236228f3eccae55d988bb8a73ed3b7e6a", func := "example.com/branches-over-buckets/branches-over-buckets/zzlaws_internal_checksum_b1.FnTimesMatchesModel", spec := "fnTimesMatchesModel", apart := false }
def FnTimesMatchesModelSaid : Prop := fnTimesMatchesModelRow.holds Try.pinned (OpenSpec.ofChange fnTimesMatchesModelSpec)

/-- ITS FALSE NEIGHBOUR: 'it returns false'. Refute it at one input. -/
def fnTimesMatchesModelWrong : ChangeSpec := { name := "fnTimesMatchesModel", fn := fun _ => fun
  | [d1, d2, d3, d4] => { results := [.lit (.bool false)], args := [d1, d2, d3, d4] }
  | _ => none }
def FnTimesMatchesModelWrongFalsely : Prop := fnTimesMatchesModelRow.holds Try.pinned (OpenSpec.ofChange fnTimesMatchesModelWrong)

/-- 'zzlaws_internal_checksum_b1.FnTimesCommutesAndAssociates': WHATEVER THE INPUT: true; the input reads as it did. -/
def fnTimesCommutesAndAssociatesSpec : ChangeSpec := { name := "fnTimesCommutesAndAssociates", fn := fun _ => fun
  | [d1, d2, d3, d4, d5] => { results := [.lit (.bool true)], args := [d1, d2, d3, d4, d5] }
  | _ => none }
def fnTimesCommutesAndAssociatesRow : OpenClaim := { program := "qxb6000010a", sum := "a3b2a725f2346c83dbadc349a69ce2c236228f3eccae55d988bb8a73ed3b7e6a", func := "example.com/branches-over-buckets/branches-over-buckets/zzlaws_internal_checksum_b1.FnTimesCommutesAndAssociates", spec := "fnTimesCommutesAndAssociates", apart := false }
def FnTimesCommutesAndAssociatesSaid : Prop := fnTimesCommutesAndAssociatesRow.holds Try.pinned (OpenSpec.ofChange fnTimesCommutesAndAssociatesSpec)

/-- ITS FALSE NEIGHBOUR: 'it returns false'. Refute it at one input. -/
def fnTimesCommutesAndAssociatesWrong : ChangeSpec := { name := "fnTimesCommutesAndAssociates", fn := fun _ => fun
  | [d1, d2, d3, d4, d5] => { results := [.lit (.bool false)], args := [d1, d2, d3, d4, d5] }
  | _ => none }
def FnTimesCommutesAndAssociatesWrongFalsely : Prop := fnTimesCommutesAndAssociatesRow.holds Try.pinned (OpenSpec.ofChange fnTimesCommutesAndAssociatesWrong)

/-- 'zzlaws_internal_checksum_b1.FnTimesDistributesWithOne': WHATEVER THE INPUT: true; the input reads as it did. -/
def fnTimesDistributesWithOneSpec : ChangeSpec := { name := "fnTimesDistributesWithOne", fn := fun _ => fun
  | [d1, d2, d3, d4, d5] => { results := [.lit (.bool true)], args := [d1, d2, d3, d4, d5] }
  | _ => none }
def fnTimesDistributesWithOneRow : OpenClaim := { program := "qxb6000010a", sum := "a3b2a725f2346c83dbadc349a69ce2c236228f3eccae55d988bb8a73ed3b7e6a", func := "example.com/branches-over-buckets/branches-over-buckets/zzlaws_internal_checksum_b1.FnTimesDistributesWithOne", spec := "fnTimesDistributesWithOne", apart := false }
def FnTimesDistributesWithOneSaid : Prop := fnTimesDistributesWithOneRow.holds Try.pinned (OpenSpec.ofChange fnTimesDistributesWithOneSpec)

/-- ITS FALSE NEIGHBOUR: 'it returns false'. Refute it at one input. -/
def fnTimesDistributesWithOneWrong : ChangeSpec := { name := "fnTimesDistributesWithOne", fn := fun _ => fun
  | [d1, d2, d3, d4, d5] => { results := [.lit (.bool false)], args := [d1, d2, d3, d4, d5] }
  | _ => none }
def FnTimesDistributesWithOneWrongFalsely : Prop := fnTimesDistributesWithOneRow.holds Try.pinned (OpenSpec.ofChange fnTimesDistributesWithOneWrong)

/-- 'zzlaws_internal_checksum_b1.FnShiftMatchesPowerModel': WHATEVER THE INPUT: true; the input reads as it did. -/
def fnShiftMatchesPowerModelSpec : ChangeSpec := { name := "fnShiftMatchesPowerModel", fn := fun _ => fun
  | [d1, d2, d3, d4] => { results := [.lit (.bool true)], args := [d1, d2, d3, d4] }
  | _ => none }
def fnShiftMatchesPowerModelRow : OpenClaim := { program := "qxb6000010a", sum := "a3b2a725f2346c83dbadc349a69ce2c236228f3eccae55d988bb8a73ed3b7e6a", func := "example.com/branches-over-buckets/branches-over-buckets/zzlaws_internal_checksum_b1.FnShiftMatchesPowerModel", spec := "fnShiftMatchesPowerModel", apart := false }
def FnShiftMatchesPowerModelSaid : Prop := fnShiftMatchesPowerModelRow.holds Try.pinned (OpenSpec.ofChange fnShiftMatchesPowerModelSpec)

/-- ITS FALSE NEIGHBOUR: 'it returns false'. Refute it at one input. -/
def fnShiftMatchesPowerModelWrong : ChangeSpec := { name := "fnShiftMatchesPowerModel", fn := fun _ => fun
  | [d1, d2, d3, d4] => { results := [.lit (.bool false)], args := [d1, d2, d3, d4] }
  | _ => none }
def FnShiftMatchesPowerModelWrongFalsely : Prop := fnShiftMatchesPowerModelRow.holds Try.pinned (OpenSpec.ofChange fnShiftMatchesPowerModelWrong)

/-- 'zzlaws_internal_checksum_b1.FnShiftAgreesWithRepeatedTimesX': WHATEVER THE INPUT: true; the input reads as it did. -/
def fnShiftAgreesWithRepeatedTimesXSpec : ChangeSpec := { name := "fnShiftAgreesWithRepeatedTimesX", fn := fun _ => fun
  | [d1, d2, d3, d4] => { results := [.lit (.bool true)], args := [d1, d2, d3, d4] }
  | _ => none }
def fnShiftAgreesWithRepeatedTimesXRow : OpenClaim := { program := "qxb6000010a", sum := "a3b2a725f2346c83dbadc349a69ce2c236228f3eccae55d988bb8a73ed3b7e6a", func := "example.com/branches-over-buckets/branches-over-buckets/zzlaws_internal_checksum_b1.FnShiftAgreesWithRepeatedTimesX", spec := "fnShiftAgreesWithRepeatedTimesX", apart := false }
def FnShiftAgreesWithRepeatedTimesXSaid : Prop := fnShiftAgreesWithRepeatedTimesXRow.holds Try.pinned (OpenSpec.ofChange fnShiftAgreesWithRepeatedTimesXSpec)

/-- ITS FALSE NEIGHBOUR: 'it returns false'. Refute it at one input. -/
def fnShiftAgreesWithRepeatedTimesXWrong : ChangeSpec := { name := "fnShiftAgreesWithRepeatedTimesX", fn := fun _ => fun
  | [d1, d2, d3, d4] => { results := [.lit (.bool false)], args := [d1, d2, d3, d4] }
  | _ => none }
def FnShiftAgreesWithRepeatedTimesXWrongFalsely : Prop := fnShiftAgreesWithRepeatedTimesXRow.holds Try.pinned (OpenSpec.ofChange fnShiftAgreesWithRepeatedTimesXWrong)

/-- 'zzlaws_internal_checksum_b1.FnShiftAdds': WHATEVER THE INPUT: true; the input reads as it did. -/
def fnShiftAddsSpec : ChangeSpec := { name := "fnShiftAdds", fn := fun _ => fun
  | [d1, d2, d3, d4, d5] => { results := [.lit (.bool true)], args := [d1, d2, d3, d4, d5] }
  | _ => none }
def fnShiftAddsRow : OpenClaim := { program := "qxb6000010a", sum := "a3b2a725f2346c83dbadc349a69ce2c236228f3eccae55d988bb8a73ed3b7e6a", func := "example.com/branches-over-buckets/branches-over-buckets/zzlaws_internal_checksum_b1.FnShiftAdds", spec := "fnShiftAdds", apart := false }
def FnShiftAddsSaid : Prop := fnShiftAddsRow.holds Try.pinned (OpenSpec.ofChange fnShiftAddsSpec)

/-- ITS FALSE NEIGHBOUR: 'it returns false'. Refute it at one input. -/
def fnShiftAddsWrong : ChangeSpec := { name := "fnShiftAdds", fn := fun _ => fun
  | [d1, d2, d3, d4, d5] => { results := [.lit (.bool false)], args := [d1, d2, d3, d4, d5] }
  | _ => none }
def FnShiftAddsWrongFalsely : Prop := fnShiftAddsRow.holds Try.pinned (OpenSpec.ofChange fnShiftAddsWrong)

end Rows
end Go.Proofs.Qxb6000010a
