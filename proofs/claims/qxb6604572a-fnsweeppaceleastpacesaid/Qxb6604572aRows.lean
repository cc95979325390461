/-
  No cell of these rows narrows 'for every input' (looked for: loops, veiled, ifaces, maps, wideKeys, modest, calm, conditions, laid).
  DERIVED. THE GIVEN ROWS OF THIS SEAT. 4 by the template 'for every input the law returns true; each argument reads behind the call as it read before'; 0 by the template 'total and deterministic' (their statements: Qxb6604572aTotals.lean).
  GIVEN WITH THE SEED: the statements are not yours to turn. If you find one false, say at which input.
  Laid BY PROGRAM, IN A SANDBOX (cutbox-rows.mjs): the forced cells as the released guide's own fill.sh prints them over the translation d99dc2ff37e6108c… (all of the seat's roots in one cut). By AI agents, Wed Nov 11 2026. No macro, syntax, notation, axiom, sorry.
-/
import Derived.Test.Qxb6604572aChecked
import GoSem.Claim
import GoSem.ClaimJoined
import GoSem.ClaimMapViews
import Derived.JoinedTies
import Derived.KernelRfl
namespace Go.Proofs.Qxb6604572a
/- THE CELL 'sum', in the pinned program and in every row, IS THE sha256 OF THE DUMP (.gsa) THAT Qxb6604572aProg.lean LOADS. Nothing in Lean hashes anything: it is a label: what it is worth is what the hold of that sum in a sandbox is worth. -/
noncomputable def Try.pinned : Pinned := { name := "qxb6604572a", sum := "d99dc2ff37e6108c1f1eee290739a6d7930f17580ed4b724bc2a9fe4e47df5b3", checked := Try.checked }
namespace Rows
def none {H : Type} : Left H := { results := [], args := [] }

/-- 'zzlaws_root_b1.FnCeilDivClosedForm': WHATEVER THE INPUT: true; the input reads as it did. -/
def fnCeilDivClosedFormSpec : ChangeSpec := { name := "fnCeilDivClosedForm", fn := fun _ => fun
  | [d1, d2] => { results := [.lit (.bool true)], args := [d1, d2] }
  | _ => none }
def fnCeilDivClosedFormRow : OpenClaim := { program := "qxb6604572a", sum := "d99dc2ff37e6108c1f1eee290739a6d7930f17580ed4b724bc2a9fe4e47df5b3", func := "example.com/bullpen/bullpen/zzlaws_root_b1.FnCeilDivClosedForm", spec := "fnCeilDivClosedForm", apart := false }
def FnCeilDivClosedFormSaid : Prop := fnCeilDivClosedFormRow.holds Try.pinned (OpenSpec.ofChange fnCeilDivClosedFormSpec)

/-- ITS FALSE NEIGHBOUR: 'it returns false'. Refute it at one input. -/
def fnCeilDivClosedFormWrong : ChangeSpec := { name := "fnCeilDivClosedForm", fn := fun _ => fun
  | [d1, d2] => { results := [.lit (.bool false)], args := [d1, d2] }
  | _ => none }
def FnCeilDivClosedFormWrongFalsely : Prop := fnCeilDivClosedFormRow.holds Try.pinned (OpenSpec.ofChange fnCeilDivClosedFormWrong)

/-- 'zzlaws_root_b1.FnCeilDivLeastMultiple': WHATEVER THE INPUT: true; the input reads as it did. -/
def fnCeilDivLeastMultipleSpec : ChangeSpec := { name := "fnCeilDivLeastMultiple", fn := fun _ => fun
  | [d1, d2] => { results := [.lit (.bool true)], args := [d1, d2] }
  | _ => none }
def fnCeilDivLeastMultipleRow : OpenClaim := { program := "qxb6604572a", sum := "d99dc2ff37e6108c1f1eee290739a6d7930f17580ed4b724bc2a9fe4e47df5b3", func := "example.com/bullpen/bullpen/zzlaws_root_b1.FnCeilDivLeastMultiple", spec := "fnCeilDivLeastMultiple", apart := false }
def FnCeilDivLeastMultipleSaid : Prop := fnCeilDivLeastMultipleRow.holds Try.pinned (OpenSpec.ofChange fnCeilDivLeastMultipleSpec)

/-- ITS FALSE NEIGHBOUR: 'it returns false'. Refute it at one input. -/
def fnCeilDivLeastMultipleWrong : ChangeSpec := { name := "fnCeilDivLeastMultiple", fn := fun _ => fun
  | [d1, d2] => { results := [.lit (.bool false)], args := [d1, d2] }
  | _ => none }
def FnCeilDivLeastMultipleWrongFalsely : Prop := fnCeilDivLeastMultipleRow.holds Try.pinned (OpenSpec.ofChange fnCeilDivLeastMultipleWrong)

/-- 'zzlaws_root_b1.FnSweepPaceLeastPace': WHATEVER THE INPUT: true; the input reads as it did. -/
def fnSweepPaceLeastPaceSpec : ChangeSpec := { name := "fnSweepPaceLeastPace", fn := fun _ => fun
  | [d] => { results := [.lit (.bool true)], args := [d] }
  | _ => none }
def fnSweepPaceLeastPaceRow : OpenClaim := { program := "qxb6604572a", sum := "d99dc2ff37e6108c1f1eee290739a6d7930f17580ed4b724bc2a9fe4e47df5b3", func := "example.com/bullpen/bullpen/zzlaws_root_b1.FnSweepPaceLeastPace", spec := "fnSweepPaceLeastPace", apart := false }
def FnSweepPaceLeastPaceSaid : Prop := fnSweepPaceLeastPaceRow.holds Try.pinned (OpenSpec.ofChange fnSweepPaceLeastPaceSpec)

/-- ITS FALSE NEIGHBOUR: 'it returns false'. Refute it at one input. -/
def fnSweepPaceLeastPaceWrong : ChangeSpec := { name := "fnSweepPaceLeastPace", fn := fun _ => fun
  | [d] => { results := [.lit (.bool false)], args := [d] }
  | _ => none }
def FnSweepPaceLeastPaceWrongFalsely : Prop := fnSweepPaceLeastPaceRow.holds Try.pinned (OpenSpec.ofChange fnSweepPaceLeastPaceWrong)

/-- 'zzlaws_root_b1.FnSweepPaceRegimes': WHATEVER THE INPUT: true; the input reads as it did. -/
def fnSweepPaceRegimesSpec : ChangeSpec := { name := "fnSweepPaceRegimes", fn := fun _ => fun
  | [d] => { results := [.lit (.bool true)], args := [d] }
  | _ => none }
def fnSweepPaceRegimesRow : OpenClaim := { program := "qxb6604572a", sum := "d99dc2ff37e6108c1f1eee290739a6d7930f17580ed4b724bc2a9fe4e47df5b3", func := "example.com/bullpen/bullpen/zzlaws_root_b1.FnSweepPaceRegimes", spec := "fnSweepPaceRegimes", apart := false }
def FnSweepPaceRegimesSaid : Prop := fnSweepPaceRegimesRow.holds Try.pinned (OpenSpec.ofChange fnSweepPaceRegimesSpec)

/-- ITS FALSE NEIGHBOUR: 'it returns false'. Refute it at one input. -/
def fnSweepPaceRegimesWrong : ChangeSpec := { name := "fnSweepPaceRegimes", fn := fun _ => fun
  | [d] => { results := [.lit (.bool false)], args := [d] }
  | _ => none }
def FnSweepPaceRegimesWrongFalsely : Prop := fnSweepPaceRegimesRow.holds Try.pinned (OpenSpec.ofChange fnSweepPaceRegimesWrong)

end Rows
end Go.Proofs.Qxb6604572a
