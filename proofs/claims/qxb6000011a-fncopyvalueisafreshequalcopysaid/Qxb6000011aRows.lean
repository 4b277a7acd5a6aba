/-
  No cell of these rows narrows 'for every input' (looked for: loops, veiled, ifaces, maps, wideKeys, modest, calm, conditions, laid).
  DERIVED. THE GIVEN ROWS OF THIS SEAT. 4 by the template 'for every input the law returns true; each argument reads behind the call as it read before'; 0 by the template 'total and deterministic' (their statements: Qxb6000011aTotals.lean).
  GIVEN WITH THE SEED: the statements are not yours to turn. If you find one false, say at which input.
  Laid BY PROGRAM, IN A SANDBOX (cutbox-rows.mjs): the forced cells as the released guide's own fill.sh prints them over the translation 4f0175263f6a3131… (all of the seat's roots in one cut). By AI agents, Wed Nov 11 2026. No macro, syntax, notation, axiom, sorry.
-/
import Derived.Test.Qxb6000011aChecked
import GoSem.Claim
import GoSem.ClaimJoined
import GoSem.ClaimMapViews
import Derived.JoinedTies
import Derived.KernelRfl
namespace Go.Proofs.Qxb6000011a
/- THE CELL 'sum', in the pinned program and in every row, IS THE sha256 OF THE DUMP (.gsa) THAT Qxb6000011aProg.lean LOADS. Nothing in Lean hashes anything: it is a label: what it is worth is what the hold of that sum in a sandbox is worth. -/
noncomputable def Try.pinned : Pinned := { name := "qxb6000011a", sum := "4f0175263f6a313131e33e566db7dbba91d1907732fca47ac87d21635101f00d", checked := Try.checked }
namespace Rows
def none {H : Type} : Left H := { results := [], args := [] }

/-- 'zzlaws_root_b1.FnHitRateIsTheFraction': WHATEVER THE INPUT: true; the input reads as it did. -/
def fnHitRateIsTheFractionSpec : ChangeSpec := { name := "fnHitRateIsTheFraction", fn := fun _ => fun
  | [d1, d2, d3, d4, d5, d6] => { results := [.lit (.bool true)], args := [d1, d2, d3, d4, d5, d6] }
  | _ => none }
def fnHitRateIsTheFractionRow : OpenClaim := { program := "qxb6000011a", sum := "4f0175263f6a313131e33e566db7dbba91d1907732fca47ac87d21635101f00d", func := "example.com/ringhold/ringhold/zzlaws_root_b1.FnHitRateIsTheFraction", spec := "fnHitRateIsTheFraction", apart := false }
def FnHitRateIsTheFractionSaid : Prop := fnHitRateIsTheFractionRow.holds Try.pinned (OpenSpec.ofChange fnHitRateIsTheFractionSpec)

/-- ITS FALSE NEIGHBOUR: 'it returns false'. Refute it at one input. -/
def fnHitRateIsTheFractionWrong : ChangeSpec := { name := "fnHitRateIsTheFraction", fn := fun _ => fun
  | [d1, d2, d3, d4, d5, d6] => { results := [.lit (.bool false)], args := [d1, d2, d3, d4, d5, d6] }
  | _ => none }
def FnHitRateIsTheFractionWrongFalsely : Prop := fnHitRateIsTheFractionRow.holds Try.pinned (OpenSpec.ofChange fnHitRateIsTheFractionWrong)

/-- 'zzlaws_root_b1.FnHitRateLiesInTheUnitInterval': WHATEVER THE INPUT: true; the input reads as it did. -/
def fnHitRateLiesInTheUnitIntervalSpec : ChangeSpec := { name := "fnHitRateLiesInTheUnitInterval", fn := fun _ => fun
  | [d1, d2] => { results := [.lit (.bool true)], args := [d1, d2] }
  | _ => none }
def fnHitRateLiesInTheUnitIntervalRow : OpenClaim := { program := "qxb6000011a", sum := "4f0175263f6a313131e33e566db7dbba91d1907732fca47ac87d21635101f00d", func := "example.com/ringhold/ringhold/zzlaws_root_b1.FnHitRateLiesInTheUnitInterval", spec := "fnHitRateLiesInTheUnitInterval", apart := false }
def FnHitRateLiesInTheUnitIntervalSaid : Prop := fnHitRateLiesInTheUnitIntervalRow.holds Try.pinned (OpenSpec.ofChange fnHitRateLiesInTheUnitIntervalSpec)

/-- ITS FALSE NEIGHBOUR: 'it returns false'. Refute it at one input. -/
def fnHitRateLiesInTheUnitIntervalWrong : ChangeSpec := { name := "fnHitRateLiesInTheUnitInterval", fn := fun _ => fun
  | [d1, d2] => { results := [.lit (.bool false)], args := [d1, d2] }
  | _ => none }
def FnHitRateLiesInTheUnitIntervalWrongFalsely : Prop := fnHitRateLiesInTheUnitIntervalRow.holds Try.pinned (OpenSpec.ofChange fnHitRateLiesInTheUnitIntervalWrong)

/-- 'zzlaws_root_b1.FnHitRateIsMonotone': WHATEVER THE INPUT: true; the input reads as it did. -/
def fnHitRateIsMonotoneSpec : ChangeSpec := { name := "fnHitRateIsMonotone", fn := fun _ => fun
  | [d1, d2] => { results := [.lit (.bool true)], args := [d1, d2] }
  | _ => none }
def fnHitRateIsMonotoneRow : OpenClaim := { program := "qxb6000011a", sum := "4f0175263f6a313131e33e566db7dbba91d1907732fca47ac87d21635101f00d", func := "example.com/ringhold/ringhold/zzlaws_root_b1.FnHitRateIsMonotone", spec := "fnHitRateIsMonotone", apart := false }
def FnHitRateIsMonotoneSaid : Prop := fnHitRateIsMonotoneRow.holds Try.pinned (OpenSpec.ofChange fnHitRateIsMonotoneSpec)

/-- ITS FALSE NEIGHBOUR: 'it returns false'. Refute it at one input. -/
def fnHitRateIsMonotoneWrong : ChangeSpec := { name := "fnHitRateIsMonotone", fn := fun _ => fun
  | [d1, d2] => { results := [.lit (.bool false)], args := [d1, d2] }
  | _ => none }
def FnHitRateIsMonotoneWrongFalsely : Prop := fnHitRateIsMonotoneRow.holds Try.pinned (OpenSpec.ofChange fnHitRateIsMonotoneWrong)

/-- 'zzlaws_root_b1.FnCopyValueIsAFreshEqualCopy': WHATEVER THE INPUT: true; the input reads as it did. -/
def fnCopyValueIsAFreshEqualCopySpec : ChangeSpec := { name := "fnCopyValueIsAFreshEqualCopy", fn := fun _ => fun
  | [d1, d2, d3, d4] => { results := [.lit (.bool true)], args := [d1, d2, d3, d4] }
  | _ => none }
def fnCopyValueIsAFreshEqualCopyRow : OpenClaim := { program := "qxb6000011a", sum := "4f0175263f6a313131e33e566db7dbba91d1907732fca47ac87d21635101f00d", func := "example.com/ringhold/ringhold/zzlaws_root_b1.FnCopyValueIsAFreshEqualCopy", spec := "fnCopyValueIsAFreshEqualCopy", apart := false }
def FnCopyValueIsAFreshEqualCopySaid : Prop := fnCopyValueIsAFreshEqualCopyRow.holds Try.pinned (OpenSpec.ofChange fnCopyValueIsAFreshEqualCopySpec)

/-- ITS FALSE NEIGHBOUR: 'it returns false'. Refute it at one input. -/
def fnCopyValueIsAFreshEqualCopyWrong : ChangeSpec := { name := "fnCopyValueIsAFreshEqualCopy", fn := fun _ => fun
  | [d1, d2, d3, d4] => { results := [.lit (.bool false)], args := [d1, d2, d3, d4] }
  | _ => none }
def FnCopyValueIsAFreshEqualCopyWrongFalsely : Prop := fnCopyValueIsAFreshEqualCopyRow.holds Try.pinned (OpenSpec.ofChange fnCopyValueIsAFreshEqualCopyWrong)

end Rows
end Go.Proofs.Qxb6000011a
