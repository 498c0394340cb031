/-
  No cell of these rows narrows 'for every input' (looked for: loops, veiled, ifaces, maps, wideKeys, modest, calm, conditions, laid).
  DERIVED. THE GIVEN ROWS OF THIS SEAT. 3 by the template 'for every input the law returns true; each argument reads behind the call as it read before'; 0 by the template 'total and deterministic' (their statements: Qxb6604458aTotals.lean).
  GIVEN WITH THE SEED: the statements are not yours to turn. If you find one false, say at which input.
  Laid BY PROGRAM, IN A SANDBOX (cutbox-rows.mjs): the forced cells as the released guide's own fill.sh prints them over the translation d12efbea2a4276e0… (all of the seat's roots in one cut). By AI agents, Wed Nov 11 2026. No macro, syntax, notation, axiom, sorry.
-/
import Derived.Test.Qxb6604458aChecked
import GoSem.Claim
import GoSem.ClaimJoined
import GoSem.ClaimMapViews
import Derived.JoinedTies
import Derived.KernelRfl
namespace Go.Proofs.Qxb6604458a
/- THE CELL 'sum', in the pinned program and in every row, IS THE sha256 OF THE DUMP (.gsa) THAT Qxb6604458aProg.lean LOADS. Nothing in Lean hashes anything: it is a label: what it is worth is what the hold of that sum in a sandbox is worth. -/
noncomputable def Try.pinned : Pinned := { name := "qxb6604458a", sum := "d12efbea2a4276e06a3d405951a8356648df332f7f9adaa50b6fff6634cfa588", checked := Try.checked }
namespace Rows
def none {H : Type} : Left H := { results := [], args := [] }

/-- 'zzlaws_root_b1.FnWithIsLeastAndGreatest': WHATEVER THE INPUT: true; the input reads as it did. -/
def fnWithIsLeastAndGreatestSpec : ChangeSpec := { name := "fnWithIsLeastAndGreatest", fn := fun _ => fun
  | [d1, d2, d3, d4, d5, d6, d7, d8, d9, d10] => { results := [.lit (.bool true)], args := [d1, d2, d3, d4, d5, d6, d7, d8, d9, d10] }
  | _ => none }
def fnWithIsLeastAndGreatestRow : OpenClaim := { program := "qxb6604458a", sum := "d12efbea2a4276e06a3d405951a8356648df332f7f9adaa50b6fff6634cfa588", func := "example.com/vetd/vetd/zzlaws_root_b1.FnWithIsLeastAndGreatest", spec := "fnWithIsLeastAndGreatest", inPlace := ["internal/bytealg.abigen_runtime_cmpstring"], plainKeys := false, apart := false }
def FnWithIsLeastAndGreatestSaid : Prop := fnWithIsLeastAndGreatestRow.holds Try.pinned (OpenSpec.ofChange fnWithIsLeastAndGreatestSpec)

/-- ITS FALSE NEIGHBOUR: 'it returns false'. Refute it at one input. -/
def fnWithIsLeastAndGreatestWrong : ChangeSpec := { name := "fnWithIsLeastAndGreatest", fn := fun _ => fun
  | [d1, d2, d3, d4, d5, d6, d7, d8, d9, d10] => { results := [.lit (.bool false)], args := [d1, d2, d3, d4, d5, d6, d7, d8, d9, d10] }
  | _ => none }
def FnWithIsLeastAndGreatestWrongFalsely : Prop := fnWithIsLeastAndGreatestRow.holds Try.pinned (OpenSpec.ofChange fnWithIsLeastAndGreatestWrong)

/-- 'zzlaws_root_b1.FnWithFoldGivesLeastAndGreatest': WHATEVER THE INPUT: true; the input reads as it did. -/
def fnWithFoldGivesLeastAndGreatestSpec : ChangeSpec := { name := "fnWithFoldGivesLeastAndGreatest", fn := fun _ => fun
  | [d1, d2, d3] => { results := [.lit (.bool true)], args := [d1, d2, d3] }
  | _ => none }
def fnWithFoldGivesLeastAndGreatestRow : OpenClaim := { program := "qxb6604458a", sum := "d12efbea2a4276e06a3d405951a8356648df332f7f9adaa50b6fff6634cfa588", func := "example.com/vetd/vetd/zzlaws_root_b1.FnWithFoldGivesLeastAndGreatest", spec := "fnWithFoldGivesLeastAndGreatest", inPlace := ["internal/bytealg.abigen_runtime_cmpstring"], plainKeys := false, apart := false }
def FnWithFoldGivesLeastAndGreatestSaid : Prop := fnWithFoldGivesLeastAndGreatestRow.holds Try.pinned (OpenSpec.ofChange fnWithFoldGivesLeastAndGreatestSpec)

/-- ITS FALSE NEIGHBOUR: 'it returns false'. Refute it at one input. -/
def fnWithFoldGivesLeastAndGreatestWrong : ChangeSpec := { name := "fnWithFoldGivesLeastAndGreatest", fn := fun _ => fun
  | [d1, d2, d3] => { results := [.lit (.bool false)], args := [d1, d2, d3] }
  | _ => none }
def FnWithFoldGivesLeastAndGreatestWrongFalsely : Prop := fnWithFoldGivesLeastAndGreatestRow.holds Try.pinned (OpenSpec.ofChange fnWithFoldGivesLeastAndGreatestWrong)

/-- 'zzlaws_root_b1.FnSpentTwiceSpendsTheSum': WHATEVER THE INPUT: true; the input reads as it did. -/
def fnSpentTwiceSpendsTheSumSpec : ChangeSpec := { name := "fnSpentTwiceSpendsTheSum", fn := fun _ => fun
  | [d1, d2, d3, d4, d5, d6] => { results := [.lit (.bool true)], args := [d1, d2, d3, d4, d5, d6] }
  | _ => none }
def fnSpentTwiceSpendsTheSumRow : OpenClaim := { program := "qxb6604458a", sum := "d12efbea2a4276e06a3d405951a8356648df332f7f9adaa50b6fff6634cfa588", func := "example.com/vetd/vetd/zzlaws_root_b1.FnSpentTwiceSpendsTheSum", spec := "fnSpentTwiceSpendsTheSum", plainKeys := false, apart := false }
def FnSpentTwiceSpendsTheSumSaid : Prop := fnSpentTwiceSpendsTheSumRow.holds Try.pinned (OpenSpec.ofChange fnSpentTwiceSpendsTheSumSpec)

/-- ITS FALSE NEIGHBOUR: 'it returns false'. Refute it at one input. -/
def fnSpentTwiceSpendsTheSumWrong : ChangeSpec := { name := "fnSpentTwiceSpendsTheSum", fn := fun _ => fun
  | [d1, d2, d3, d4, d5, d6] => { results := [.lit (.bool false)], args := [d1, d2, d3, d4, d5, d6] }
  | _ => none }
def FnSpentTwiceSpendsTheSumWrongFalsely : Prop := fnSpentTwiceSpendsTheSumRow.holds Try.pinned (OpenSpec.ofChange fnSpentTwiceSpendsTheSumWrong)

end Rows
end Go.Proofs.Qxb6604458a
