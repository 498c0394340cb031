/-
  No cell of these rows narrows 'for every input' (looked for: loops, veiled, ifaces, maps, wideKeys, modest, calm, conditions, laid).
  DERIVED. THE GIVEN ROWS OF THIS SEAT. 2 by the template 'for every input the law returns true; each argument reads behind the call as it read before'; 0 by the template 'total and deterministic' (their statements: Qxb6603675aTotals.lean).
  GIVEN WITH THE SEED: the statements are not yours to turn. If you find one false, say at which input.
  Laid BY PROGRAM, IN A SANDBOX (cutbox-rows.mjs): the forced cells as the released guide's own fill.sh prints them over the translation 009cf3338b74e96a… (all of the seat's roots in one cut). By AI agents, Wed Nov 11 2026. No macro, syntax, notation, axiom, sorry.
-/
import Derived.Test.Qxb6603675aChecked
import GoSem.Claim
import GoSem.ClaimJoined
import GoSem.ClaimMapViews
import Derived.JoinedTies
import Derived.KernelRfl
namespace Go.Proofs.Qxb6603675a
/- THE CELL 'sum', in the pinned program and in every row, IS THE sha256 OF THE DUMP (.gsa) THAT Qxb6603675aProg.lean LOADS. Nothing in Lean hashes anything: it is a label: what it is worth is what the hold of that sum in a sandbox is worth. -/
noncomputable def Try.pinned : Pinned := { name := "qxb6603675a", sum := "009cf3338b74e96ad51cbac6858ef78b7c834fb571c2eab10c77351613cbf32b", checked := Try.checked }
namespace Rows
def none {H : Type} : Left H := { results := [], args := [] }

/-- 'zzlaws_pkg_kv_b1.FnStepCountPassedIsStrictExcess': WHATEVER THE INPUT: true; the input reads as it did. -/
def fnStepCountPassedIsStrictExcessSpec : ChangeSpec := { name := "fnStepCountPassedIsStrictExcess", fn := fun _ => fun
  | [d1, d2] => { results := [.lit (.bool true)], args := [d1, d2] }
  | _ => none }
def fnStepCountPassedIsStrictExcessRow : OpenClaim := { program := "qxb6603675a", sum := "009cf3338b74e96ad51cbac6858ef78b7c834fb571c2eab10c77351613cbf32b", func := "example.com/quorumweave/quorumweave/zzlaws_pkg_kv_b1.FnStepCountPassedIsStrictExcess", spec := "fnStepCountPassedIsStrictExcess", apart := false }
def FnStepCountPassedIsStrictExcessSaid : Prop := fnStepCountPassedIsStrictExcessRow.holds Try.pinned (OpenSpec.ofChange fnStepCountPassedIsStrictExcessSpec)

/-- ITS FALSE NEIGHBOUR: 'it returns false'. Refute it at one input. -/
def fnStepCountPassedIsStrictExcessWrong : ChangeSpec := { name := "fnStepCountPassedIsStrictExcess", fn := fun _ => fun
  | [d1, d2] => { results := [.lit (.bool false)], args := [d1, d2] }
  | _ => none }
def FnStepCountPassedIsStrictExcessWrongFalsely : Prop := fnStepCountPassedIsStrictExcessRow.holds Try.pinned (OpenSpec.ofChange fnStepCountPassedIsStrictExcessWrong)

/-- 'zzlaws_pkg_kv_b1.FnStepCountRunPassesJustPastBound': WHATEVER THE INPUT: true; the input reads as it did. -/
def fnStepCountRunPassesJustPastBoundSpec : ChangeSpec := { name := "fnStepCountRunPassesJustPastBound", fn := fun _ => fun
  | [d] => { results := [.lit (.bool true)], args := [d] }
  | _ => none }
def fnStepCountRunPassesJustPastBoundRow : OpenClaim := { program := "qxb6603675a", sum := "009cf3338b74e96ad51cbac6858ef78b7c834fb571c2eab10c77351613cbf32b", func := "example.com/quorumweave/quorumweave/zzlaws_pkg_kv_b1.FnStepCountRunPassesJustPastBound", spec := "fnStepCountRunPassesJustPastBound", apart := false }
def FnStepCountRunPassesJustPastBoundSaid : Prop := fnStepCountRunPassesJustPastBoundRow.holds Try.pinned (OpenSpec.ofChange fnStepCountRunPassesJustPastBoundSpec)

/-- ITS FALSE NEIGHBOUR: 'it returns false'. Refute it at one input. -/
def fnStepCountRunPassesJustPastBoundWrong : ChangeSpec := { name := "fnStepCountRunPassesJustPastBound", fn := fun _ => fun
  | [d] => { results := [.lit (.bool false)], args := [d] }
  | _ => none }
def FnStepCountRunPassesJustPastBoundWrongFalsely : Prop := fnStepCountRunPassesJustPastBoundRow.holds Try.pinned (OpenSpec.ofChange fnStepCountRunPassesJustPastBoundWrong)

end Rows
end Go.Proofs.Qxb6603675a
