/-
  No cell of these rows narrows 'for every input' (looked for: loops, veiled, ifaces, maps, wideKeys, modest, calm, conditions, laid).
  DERIVED. THE GIVEN ROWS OF THIS SEAT. 6 by the template 'for every input the law returns true; each argument reads behind the call as it read before'; 0 by the template 'total and deterministic' (their statements: Qxb6002790aTotals.lean).
  GIVEN WITH THE SEED: the statements are not yours to turn. If you find one false, say at which input.
  Laid BY PROGRAM, IN A SANDBOX (cutbox-rows.mjs): the forced cells as the released guide's own fill.sh prints them over the translation 1660752beb0d02bd… (all of the seat's roots in one cut). By AI agents, Wed Nov 11 2026. No macro, syntax, notation, axiom, sorry.
-/
import Derived.Test.Qxb6002790aChecked
import GoSem.Claim
import GoSem.ClaimJoined
import GoSem.ClaimMapViews
import Derived.JoinedTies
import Derived.KernelRfl
namespace Go.Proofs.Qxb6002790a
/- THE CELL 'sum', in the pinned program and in every row, IS THE sha256 OF THE DUMP (.gsa) THAT Qxb6002790aProg.lean LOADS. Nothing in Lean hashes anything: it is a label: what it is worth is what the hold of that sum in a sandbox is worth. -/
noncomputable def Try.pinned : Pinned := { name := "qxb6002790a", sum := "1660752beb0d02bddf4511b5852f3a173d8604227ae2655b0c7549afb31d4680", checked := Try.checked }
namespace Rows
def none {H : Type} : Left H := { results := [], args := [] }

/-- 'zzlaws_internal_ring_b1.FnReduceKeepsLowBits': WHATEVER THE INPUT: true; the input reads as it did. -/
def fnReduceKeepsLowBitsSpec : ChangeSpec := { name := "fnReduceKeepsLowBits", fn := fun _ => fun
  | [d1, d2] => { results := [.lit (.bool true)], args := [d1, d2] }
  | _ => none }
def fnReduceKeepsLowBitsRow : OpenClaim := { program := "qxb6002790a", sum := "1660752beb0d02bddf4511b5852f3a173d8604227ae2655b0c7549afb31d4680", func := "example.com/fingerpost/fingerpost/zzlaws_internal_ring_b1.FnReduceKeepsLowBits", spec := "fnReduceKeepsLowBits", apart := false }
def FnReduceKeepsLowBitsSaid : Prop := fnReduceKeepsLowBitsRow.holds Try.pinned (OpenSpec.ofChange fnReduceKeepsLowBitsSpec)

/-- ITS FALSE NEIGHBOUR: 'it returns false'. Refute it at one input. -/
def fnReduceKeepsLowBitsWrong : ChangeSpec := { name := "fnReduceKeepsLowBits", fn := fun _ => fun
  | [d1, d2] => { results := [.lit (.bool false)], args := [d1, d2] }
  | _ => none }
def FnReduceKeepsLowBitsWrongFalsely : Prop := fnReduceKeepsLowBitsRow.holds Try.pinned (OpenSpec.ofChange fnReduceKeepsLowBitsWrong)

/-- 'zzlaws_internal_ring_b1.FnReduceFullWidthIsIdentityAndNarrowsInSteps': WHATEVER THE INPUT: true; the input reads as it did. -/
def fnReduceFullWidthIsIdentityAndNarrowsInStepsSpec : ChangeSpec := { name := "fnReduceFullWidthIsIdentityAndNarrowsInSteps", fn := fun _ => fun
  | [d1, d2, d3] => { results := [.lit (.bool true)], args := [d1, d2, d3] }
  | _ => none }
def fnReduceFullWidthIsIdentityAndNarrowsInStepsRow : OpenClaim := { program := "qxb6002790a", sum := "1660752beb0d02bddf4511b5852f3a173d8604227ae2655b0c7549afb31d4680", func := "example.com/fingerpost/fingerpost/zzlaws_internal_ring_b1.FnReduceFullWidthIsIdentityAndNarrowsInSteps", spec := "fnReduceFullWidthIsIdentityAndNarrowsInSteps", apart := false }
def FnReduceFullWidthIsIdentityAndNarrowsInStepsSaid : Prop := fnReduceFullWidthIsIdentityAndNarrowsInStepsRow.holds Try.pinned (OpenSpec.ofChange fnReduceFullWidthIsIdentityAndNarrowsInStepsSpec)

/-- ITS FALSE NEIGHBOUR: 'it returns false'. Refute it at one input. -/
def fnReduceFullWidthIsIdentityAndNarrowsInStepsWrong : ChangeSpec := { name := "fnReduceFullWidthIsIdentityAndNarrowsInSteps", fn := fun _ => fun
  | [d1, d2, d3] => { results := [.lit (.bool false)], args := [d1, d2, d3] }
  | _ => none }
def FnReduceFullWidthIsIdentityAndNarrowsInStepsWrongFalsely : Prop := fnReduceFullWidthIsIdentityAndNarrowsInStepsRow.holds Try.pinned (OpenSpec.ofChange fnReduceFullWidthIsIdentityAndNarrowsInStepsWrong)

/-- 'zzlaws_internal_ring_b1.FnBetweenByDistance': WHATEVER THE INPUT: true; the input reads as it did. -/
def fnBetweenByDistanceSpec : ChangeSpec := { name := "fnBetweenByDistance", fn := fun _ => fun
  | [d1, d2, d3] => { results := [.lit (.bool true)], args := [d1, d2, d3] }
  | _ => none }
def fnBetweenByDistanceRow : OpenClaim := { program := "qxb6002790a", sum := "1660752beb0d02bddf4511b5852f3a173d8604227ae2655b0c7549afb31d4680", func := "example.com/fingerpost/fingerpost/zzlaws_internal_ring_b1.FnBetweenByDistance", spec := "fnBetweenByDistance", inPlace := ["internal/bytealg.Compare"], apart := false }
def FnBetweenByDistanceSaid : Prop := fnBetweenByDistanceRow.holds Try.pinned (OpenSpec.ofChange fnBetweenByDistanceSpec)

/-- ITS FALSE NEIGHBOUR: 'it returns false'. Refute it at one input. -/
def fnBetweenByDistanceWrong : ChangeSpec := { name := "fnBetweenByDistance", fn := fun _ => fun
  | [d1, d2, d3] => { results := [.lit (.bool false)], args := [d1, d2, d3] }
  | _ => none }
def FnBetweenByDistanceWrongFalsely : Prop := fnBetweenByDistanceRow.holds Try.pinned (OpenSpec.ofChange fnBetweenByDistanceWrong)

/-- 'zzlaws_internal_ring_b1.FnBetweenSplitsRing': WHATEVER THE INPUT: true; the input reads as it did. -/
def fnBetweenSplitsRingSpec : ChangeSpec := { name := "fnBetweenSplitsRing", fn := fun _ => fun
  | [d1, d2, d3] => { results := [.lit (.bool true)], args := [d1, d2, d3] }
  | _ => none }
def fnBetweenSplitsRingRow : OpenClaim := { program := "qxb6002790a", sum := "1660752beb0d02bddf4511b5852f3a173d8604227ae2655b0c7549afb31d4680", func := "example.com/fingerpost/fingerpost/zzlaws_internal_ring_b1.FnBetweenSplitsRing", spec := "fnBetweenSplitsRing", inPlace := ["internal/bytealg.Compare"], apart := false }
def FnBetweenSplitsRingSaid : Prop := fnBetweenSplitsRingRow.holds Try.pinned (OpenSpec.ofChange fnBetweenSplitsRingSpec)

/-- ITS FALSE NEIGHBOUR: 'it returns false'. Refute it at one input. -/
def fnBetweenSplitsRingWrong : ChangeSpec := { name := "fnBetweenSplitsRing", fn := fun _ => fun
  | [d1, d2, d3] => { results := [.lit (.bool false)], args := [d1, d2, d3] }
  | _ => none }
def FnBetweenSplitsRingWrongFalsely : Prop := fnBetweenSplitsRingRow.holds Try.pinned (OpenSpec.ofChange fnBetweenSplitsRingWrong)

/-- 'zzlaws_internal_ring_b1.FnShiftAddsPowerOfTwo': WHATEVER THE INPUT: true; the input reads as it did. -/
def fnShiftAddsPowerOfTwoSpec : ChangeSpec := { name := "fnShiftAddsPowerOfTwo", fn := fun _ => fun
  | [d1, d2, d3, d4] => { results := [.lit (.bool true)], args := [d1, d2, d3, d4] }
  | _ => none }
def fnShiftAddsPowerOfTwoRow : OpenClaim := { program := "qxb6002790a", sum := "1660752beb0d02bddf4511b5852f3a173d8604227ae2655b0c7549afb31d4680", func := "example.com/fingerpost/fingerpost/zzlaws_internal_ring_b1.FnShiftAddsPowerOfTwo", spec := "fnShiftAddsPowerOfTwo", apart := false }
def FnShiftAddsPowerOfTwoSaid : Prop := fnShiftAddsPowerOfTwoRow.holds Try.pinned (OpenSpec.ofChange fnShiftAddsPowerOfTwoSpec)

/-- ITS FALSE NEIGHBOUR: 'it returns false'. Refute it at one input. -/
def fnShiftAddsPowerOfTwoWrong : ChangeSpec := { name := "fnShiftAddsPowerOfTwo", fn := fun _ => fun
  | [d1, d2, d3, d4] => { results := [.lit (.bool false)], args := [d1, d2, d3, d4] }
  | _ => none }
def FnShiftAddsPowerOfTwoWrongFalsely : Prop := fnShiftAddsPowerOfTwoRow.holds Try.pinned (OpenSpec.ofChange fnShiftAddsPowerOfTwoWrong)

/-- 'zzlaws_internal_ring_b1.FnShiftRoundTrip': WHATEVER THE INPUT: true; the input reads as it did. -/
def fnShiftRoundTripSpec : ChangeSpec := { name := "fnShiftRoundTrip", fn := fun _ => fun
  | [d1, d2, d3, d4] => { results := [.lit (.bool true)], args := [d1, d2, d3, d4] }
  | _ => none }
def fnShiftRoundTripRow : OpenClaim := { program := "qxb6002790a", sum := "1660752beb0d02bddf4511b5852f3a173d8604227ae2655b0c7549afb31d4680", func := "example.com/fingerpost/fingerpost/zzlaws_internal_ring_b1.FnShiftRoundTrip", spec := "fnShiftRoundTrip", apart := false }
def FnShiftRoundTripSaid : Prop := fnShiftRoundTripRow.holds Try.pinned (OpenSpec.ofChange fnShiftRoundTripSpec)

/-- ITS FALSE NEIGHBOUR: 'it returns false'. Refute it at one input. -/
def fnShiftRoundTripWrong : ChangeSpec := { name := "fnShiftRoundTrip", fn := fun _ => fun
  | [d1, d2, d3, d4] => { results := [.lit (.bool false)], args := [d1, d2, d3, d4] }
  | _ => none }
def FnShiftRoundTripWrongFalsely : Prop := fnShiftRoundTripRow.holds Try.pinned (OpenSpec.ofChange fnShiftRoundTripWrong)

end Rows
end Go.Proofs.Qxb6002790a
