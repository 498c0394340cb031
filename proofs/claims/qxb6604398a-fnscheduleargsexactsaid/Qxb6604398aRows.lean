/-
  No cell of these rows narrows 'for every input' (looked for: loops, veiled, ifaces, maps, wideKeys, modest, calm, conditions, laid).
  DERIVED. THE GIVEN ROWS OF THIS SEAT. 4 by the template 'for every input the law returns true; each argument reads behind the call as it read before'; 0 by the template 'total and deterministic' (their statements: Qxb6604398aTotals.lean).
  GIVEN WITH THE SEED: the statements are not yours to turn. If you find one false, say at which input.
  Laid BY PROGRAM, IN A SANDBOX (cutbox-rows.mjs): the forced cells as the released guide's own fill.sh prints them over the translation 0f4290e33e394fa2… (all of the seat's roots in one cut). By AI agents, Wed Nov 11 2026. No macro, syntax, notation, axiom, sorry.
-/
import Derived.Test.Qxb6604398aChecked
import GoSem.Claim
import GoSem.ClaimJoined
import GoSem.ClaimMapViews
import Derived.JoinedTies
import Derived.KernelRfl
namespace Go.Proofs.Qxb6604398a
/- THE CELL 'sum', in the pinned program and in every row, IS THE sha256 OF THE DUMP (.gsa) THAT Qxb6604398aProg.lean LOADS. Nothing in Lean hashes anything: it is a label: what it is worth is what the hold of that sum in a sandbox is worth. -/
noncomputable def Try.pinned : Pinned := { name := "qxb6604398a", sum := "0f4290e33e394fa24ee7dad6a57e43ee05cb38af6610a3ca8c6c1f32c8c5d8a1", checked := Try.checked }
namespace Rows
def none {H : Type} : Left H := { results := [], args := [] }

/-- 'zzlaws_root_b1.FnLeaseLiveIsTemplateWithThreeHoles': WHATEVER THE INPUT: true; the input reads as it did. -/
def fnLeaseLiveIsTemplateWithThreeHolesSpec : ChangeSpec := { name := "fnLeaseLiveIsTemplateWithThreeHoles", fn := fun _ => fun
  | [d] => { results := [.lit (.bool true)], args := [d] }
  | _ => none }
def fnLeaseLiveIsTemplateWithThreeHolesRow : OpenClaim := { program := "qxb6604398a", sum := "0f4290e33e394fa24ee7dad6a57e43ee05cb38af6610a3ca8c6c1f32c8c5d8a1", func := "example.com/locked-rows/locked-rows/zzlaws_root_b1.FnLeaseLiveIsTemplateWithThreeHoles", spec := "fnLeaseLiveIsTemplateWithThreeHoles", apart := false }
def FnLeaseLiveIsTemplateWithThreeHolesSaid : Prop := fnLeaseLiveIsTemplateWithThreeHolesRow.holds Try.pinned (OpenSpec.ofChange fnLeaseLiveIsTemplateWithThreeHolesSpec)

/-- ITS FALSE NEIGHBOUR: 'it returns false'. Refute it at one input. -/
def fnLeaseLiveIsTemplateWithThreeHolesWrong : ChangeSpec := { name := "fnLeaseLiveIsTemplateWithThreeHoles", fn := fun _ => fun
  | [d] => { results := [.lit (.bool false)], args := [d] }
  | _ => none }
def FnLeaseLiveIsTemplateWithThreeHolesWrongFalsely : Prop := fnLeaseLiveIsTemplateWithThreeHolesRow.holds Try.pinned (OpenSpec.ofChange fnLeaseLiveIsTemplateWithThreeHolesWrong)

/-- 'zzlaws_root_b1.FnLeaseLiveIsOneBalancedTermOverTheJobsColumns': WHATEVER THE INPUT: true; the input reads as it did. -/
def fnLeaseLiveIsOneBalancedTermOverTheJobsColumnsSpec : ChangeSpec := { name := "fnLeaseLiveIsOneBalancedTermOverTheJobsColumns", fn := fun _ => fun
  | [d] => { results := [.lit (.bool true)], args := [d] }
  | _ => none }
def fnLeaseLiveIsOneBalancedTermOverTheJobsColumnsRow : OpenClaim := { program := "qxb6604398a", sum := "0f4290e33e394fa24ee7dad6a57e43ee05cb38af6610a3ca8c6c1f32c8c5d8a1", func := "example.com/locked-rows/locked-rows/zzlaws_root_b1.FnLeaseLiveIsOneBalancedTermOverTheJobsColumns", spec := "fnLeaseLiveIsOneBalancedTermOverTheJobsColumns", apart := false }
def FnLeaseLiveIsOneBalancedTermOverTheJobsColumnsSaid : Prop := fnLeaseLiveIsOneBalancedTermOverTheJobsColumnsRow.holds Try.pinned (OpenSpec.ofChange fnLeaseLiveIsOneBalancedTermOverTheJobsColumnsSpec)

/-- ITS FALSE NEIGHBOUR: 'it returns false'. Refute it at one input. -/
def fnLeaseLiveIsOneBalancedTermOverTheJobsColumnsWrong : ChangeSpec := { name := "fnLeaseLiveIsOneBalancedTermOverTheJobsColumns", fn := fun _ => fun
  | [d] => { results := [.lit (.bool false)], args := [d] }
  | _ => none }
def FnLeaseLiveIsOneBalancedTermOverTheJobsColumnsWrongFalsely : Prop := fnLeaseLiveIsOneBalancedTermOverTheJobsColumnsRow.holds Try.pinned (OpenSpec.ofChange fnLeaseLiveIsOneBalancedTermOverTheJobsColumnsWrong)

/-- 'zzlaws_root_b1.FnScheduleArgsExact': WHATEVER THE INPUT: true; the input reads as it did. -/
def fnScheduleArgsExactSpec : ChangeSpec := { name := "fnScheduleArgsExact", fn := fun _ => fun
  | [d1, d2, d3] => { results := [.lit (.bool true)], args := [d1, d2, d3] }
  | _ => none }
def fnScheduleArgsExactRow : OpenClaim := { program := "qxb6604398a", sum := "0f4290e33e394fa24ee7dad6a57e43ee05cb38af6610a3ca8c6c1f32c8c5d8a1", func := "example.com/locked-rows/locked-rows/zzlaws_root_b1.FnScheduleArgsExact", spec := "fnScheduleArgsExact", apart := false }
def FnScheduleArgsExactSaid : Prop := fnScheduleArgsExactRow.holds Try.pinned (OpenSpec.ofChange fnScheduleArgsExactSpec)

/-- ITS FALSE NEIGHBOUR: 'it returns false'. Refute it at one input. -/
def fnScheduleArgsExactWrong : ChangeSpec := { name := "fnScheduleArgsExact", fn := fun _ => fun
  | [d1, d2, d3] => { results := [.lit (.bool false)], args := [d1, d2, d3] }
  | _ => none }
def FnScheduleArgsExactWrongFalsely : Prop := fnScheduleArgsExactRow.holds Try.pinned (OpenSpec.ofChange fnScheduleArgsExactWrong)

/-- 'zzlaws_root_b1.FnScheduleArgsWholeMicrosecondsRoundTrip': WHATEVER THE INPUT: true; the input reads as it did. -/
def fnScheduleArgsWholeMicrosecondsRoundTripSpec : ChangeSpec := { name := "fnScheduleArgsWholeMicrosecondsRoundTrip", fn := fun _ => fun
  | [d] => { results := [.lit (.bool true)], args := [d] }
  | _ => none }
def fnScheduleArgsWholeMicrosecondsRoundTripRow : OpenClaim := { program := "qxb6604398a", sum := "0f4290e33e394fa24ee7dad6a57e43ee05cb38af6610a3ca8c6c1f32c8c5d8a1", func := "example.com/locked-rows/locked-rows/zzlaws_root_b1.FnScheduleArgsWholeMicrosecondsRoundTrip", spec := "fnScheduleArgsWholeMicrosecondsRoundTrip", apart := false }
def FnScheduleArgsWholeMicrosecondsRoundTripSaid : Prop := fnScheduleArgsWholeMicrosecondsRoundTripRow.holds Try.pinned (OpenSpec.ofChange fnScheduleArgsWholeMicrosecondsRoundTripSpec)

/-- ITS FALSE NEIGHBOUR: 'it returns false'. Refute it at one input. -/
def fnScheduleArgsWholeMicrosecondsRoundTripWrong : ChangeSpec := { name := "fnScheduleArgsWholeMicrosecondsRoundTrip", fn := fun _ => fun
  | [d] => { results := [.lit (.bool false)], args := [d] }
  | _ => none }
def FnScheduleArgsWholeMicrosecondsRoundTripWrongFalsely : Prop := fnScheduleArgsWholeMicrosecondsRoundTripRow.holds Try.pinned (OpenSpec.ofChange fnScheduleArgsWholeMicrosecondsRoundTripWrong)

end Rows
end Go.Proofs.Qxb6604398a
