/-
  THE SHELL OF A PROOF OF 'Rows.FnSpentTwiceSpendsTheSumSaid' ('example.com/vetd/vetd/zzlaws_root_b1.FnSpentTwiceSpendsTheSum'), WRITTEN BY PROGRAM (proof-skeleton.mjs) off the guide's own print for that function.
  The walk is filled by the prover; all else is the guide's template at this function's number and types.
-/
import Derived.Test.Qxb6604458aRows
import Derived.WalkKit
import Derived.ProofKit
import Derived.OpenShut
import Derived.ShutString
import Derived.Test.Qxb6604458aSpent
namespace Go.Proofs.Qxb6604458a.fnSpentTwiceSpendsTheSum
open Go.ChangeShapes Go.WideShapes Go.ChangeAt Go.RowKit
open Go.ChangeMaps (open_string shut_string)
set_option linter.unusedVariables false      -- a walk need not use every 'w<i>' (that an integer argument fits its kind)

theorem own : ownKnob Try.prog.godebug = none := by kernel_rfl

/-! ### STEP 1: THE WALK: the Go text returns true. 'Grown w w'': the world has at most new blocks (Derived/RowKit3.lean). Part the cases AHEAD of 'go_enter' where a test parts the walk; take each callee by a contract of your own. -/
set_option maxHeartbeats 1000000 in
theorem walk (a0 : Bool) (a1 : Int) (a2 : Bool) (a3 : Int) (a4 : Int) (a5 : Int) (w1 : (Lit.int .i64 a1).wf = true) (w3 : (Lit.int .i64 a3).wf = true) (w4 : (Lit.int .i64 a4).wf = true) (w5 : (Lit.int .i64 a5).wf = true) (w : World) :
    Calls Try.prog 5 #[.bool a0, .int .i64 a1, .bool a2, .int .i64 a3, .int .i64 a4, .int .i64 a5] w fun e w' => e = .returned (.bool true) ∧ Grown w w' := by
  have b1 := bounds_i64 w1
  have b3 := bounds_i64 w3
  have b4 := bounds_i64 w4
  have b5 := bounds_i64 w5
  clear w1 w3 w4 w5
  by_cases hl : a5 < 0
  · go_enter Try.func5, Try.ntmps5
    go_wp2_with fail
    go_ret
    exact ⟨rfl, Grown.refl _⟩
  by_cases hs : a4 < a5
  · go_enter Try.func5, Try.ntmps5
    go_wp2_with fail
    go_ret
    exact ⟨rfl, Grown.refl _⟩
  by_cases hm : a5 < a1
  · go_enter Try.func5, Try.ntmps5
    go_wp2_with fail
    go_ret
    exact ⟨rfl, Grown.refl _⟩
  by_cases ho : 9223372036854775807 < a5 - a1
  · have hw : wrap64 (a5 - a1) < 0 := by unfold wrap64; omega
    go_enter Try.func5, Try.ntmps5
    go_wp2_with fail
    go_ret
    exact ⟨rfl, Grown.refl _⟩
  by_cases hm2 : a5 - a1 < a3
  · go_enter Try.func5, Try.ntmps5
    go_wp2_with fail
    go_ret
    exact ⟨rfl, Grown.refl _⟩
  by_cases ho2 : 9223372036854775807 < a5 - a1 - a3
  · have hw : wrap64 (a5 - a1 - a3) < 0 := by unfold wrap64; omega
    go_enter Try.func5, Try.ntmps5
    go_wp2_with fail
    go_ret
    exact ⟨rfl, Grown.refl _⟩
  have k1 : 0 ≤ a5 - a1 ∧ a5 - a1 ≤ 9223372036854775807 := by omega
  have k2 : 0 ≤ a5 - a1 - a3 ∧ a5 - a1 - a3 ≤ 9223372036854775807 := by omega
  have k3 : -9223372036854775807 ≤ a1 + a3 ∧ a1 + a3 ≤ 9223372036854775807 := by omega
  have k4 : 0 ≤ a5 - (a1 + a3) ∧ a5 - (a1 + a3) ≤ 9223372036854775807 := by omega
  go_enter Try.func5, Try.ntmps5
  go_wp2_with fail
  refine (Spent.newH a4 a5 _).mono ?_
  rintro e x1 ⟨rfl, n1, -, g1⟩
  go_wp2_with fail
  refine (Spent.zzspent _ a4 a5 a1 a0 _ n1 k1.1 k1.2).mono ?_
  rintro e x2 ⟨rfl, hx2⟩
  have n2 : Spent.Bnd x2 w.heap.size a4 (a5 - a1) := by rw [hx2]; exact n1.set _
  have g2 : Grown w x2 := by rw [hx2]; exact g1.setCell (Nat.le_refl _) _
  clear hx2 n1 g1
  go_wp2_with fail
  refine (Spent.left _ a4 (a5 - a1) _ n2).mono ?_
  rintro e x3 ⟨rfl, rfl⟩
  go_wp2_with fail
  refine (Spent.zzspent _ a4 (a5 - a1) a3 a2 _ n2 k2.1 k2.2).mono ?_
  rintro e x4 ⟨rfl, hx4⟩
  have n4 : Spent.Bnd x4 w.heap.size a4 (a5 - a1 - a3) := by rw [hx4]; exact n2.set _
  have g4 : Grown w x4 := by rw [hx4]; exact g2.setCell (Nat.le_refl _) _
  clear hx4 n2 g2
  go_wp2_with fail
  refine (Spent.left _ a4 (a5 - a1 - a3) _ n4).mono ?_
  rintro e x5 ⟨rfl, rfl⟩
  go_wp2_with fail
  refine (Spent.newH a4 a5 _).mono ?_
  rintro e x6 ⟨rfl, n6, bl6, g6⟩
  have m6 := n4.below bl6
  have g6' := Spent.grown_trans g4 g6
  have hd : w.heap.size + 1 < x5.heap.size := World.block_lt_of_cell? _ _ n4.ptr
  clear n4 bl6
  go_wp2_with fail
  refine (Spent.zzspent _ a4 a5 (a1 + a3) a0 _ n6 k4.1 k4.2).mono ?_
  rintro e x7 ⟨rfl, hx7⟩
  have n7 : Spent.Bnd x7 x5.heap.size a4 (a5 - a1 - a3) := by rw [hx7, show a5 - (a1 + a3) = a5 - a1 - a3 by omega]; exact n6.set _
  have m7 : Spent.Bnd x7 w.heap.size a4 (a5 - a1 - a3) := by rw [hx7]; exact m6.other (by omega) _
  have g7 : Grown w x7 := by rw [hx7]; exact g6'.setCell (by simp; omega) _
  clear hx7 n6 m6 g6 g6' g4
  go_wp2_with fail
  refine (Spent.left _ a4 (a5 - a1 - a3) _ n7).mono ?_
  rintro e x8 ⟨rfl, rfl⟩
  go_wp2_with fail
  refine (Spent.steps _ a4 (a5 - a1 - a3) _ m7).mono ?_
  rintro e x9 ⟨rfl, rfl⟩
  go_wp2_with fail
  refine (Spent.steps _ a4 (a5 - a1 - a3) _ n7).mono ?_
  rintro e x10 ⟨rfl, rfl⟩
  go_wp2_with fail
  go_ret
  exact ⟨rfl, g7⟩

/-! ### THE ROW's STEP: WRITTEN OUT: LEAVE IT -/
set_option maxRecDepth 100000 in
theorem lifted (os : Os) (started : os.Started) (H : Type) (enc : TypeId × Value → H) :
    ReturnsInHanded {} Try.checked os 5 .any (Rows.fnSpentTwiceSpendsTheSumSpec.pre6 enc Try.prog Try.f5 Rows.fnSpentTwiceSpendsTheSumRow.domain false) (Rows.fnSpentTwiceSpendsTheSumSpec.post enc Try.prog Try.f5 false true false false) := by
  refine returnsInHanded_of_change (C := Try.checked) own started (by kernel_rfl) Try.func5
    (ChangeSpec.witness6 (enc := enc) (C := Try.checked) false ⟨#[], #[.bool false, .int .i64 0, .bool false, .int .i64 0, .int .i64 0, .int .i64 0], []⟩ 8 (by kernel_rfl) (by kernel_rfl) (by kernel_rfl) (by kernel_rfl)) ?_
  intro W base args ds gs before hval0 hW hcnd _
  have hval : ∀ (j : Nat) t v, Try.f5.params[j]? = some t → args[j]? = some v → Value.okWide Try.prog W .any base t v := hval0
  have hW' := hW
  obtain ⟨p, q, hA0, hV, rfl, hfz, hnd⟩ := hW
  have hA : DataW.TrodAll enc Try.prog W 0 (fun _ => true) true Try.f5.params.toList args.toList ds p := hA0
  rw [Try.params5] at hA hval
  obtain ⟨v0, vs0, d0, ds0, p0, q0, hargs, rfl, rfl, h0, r0⟩ := trodAll_cons hA
  obtain ⟨v1, vs1, d1, ds1, p1, q1, rfl, rfl, rfl, h1, r1⟩ := trodAll_cons r0
  obtain ⟨v2, vs2, d2, ds2, p2, q2, rfl, rfl, rfl, h2, r2⟩ := trodAll_cons r1
  obtain ⟨v3, vs3, d3, ds3, p3, q3, rfl, rfl, rfl, h3, r3⟩ := trodAll_cons r2
  obtain ⟨v4, vs4, d4, ds4, p4, q4, rfl, rfl, rfl, h4, r4⟩ := trodAll_cons r3
  obtain ⟨v5, vs5, d5, ds5, p5, q5, rfl, rfl, rfl, h5, r5⟩ := trodAll_cons r4
  obtain ⟨rfl, rfl, rfl⟩ := trodAll_nil r5
  obtain rfl : args = #[v0, v1, v2, v3, v4, v5] := by cases args; simp_all
  obtain ⟨rfl, rfl⟩ := trodVars_none hV
  obtain ⟨a0, rfl, rfl, rfl⟩ := open_bool Try.underlying4 (hval 0 4 v0 rfl rfl) h0
  obtain ⟨a1, rfl, rfl, rfl, w1⟩ := open_int Try.underlying2 (hval 1 2 v1 rfl rfl) h1
  obtain ⟨a2, rfl, rfl, rfl⟩ := open_bool Try.underlying4 (hval 2 4 v2 rfl rfl) h2
  obtain ⟨a3, rfl, rfl, rfl, w3⟩ := open_int Try.underlying2 (hval 3 2 v3 rfl rfl) h3
  obtain ⟨a4, rfl, rfl, rfl, w4⟩ := open_int Try.underlying2 (hval 4 2 v4 rfl rfl) h4
  obtain ⟨a5, rfl, rfl, rfl, w5⟩ := open_int Try.underlying2 (hval 5 2 v5 rfl rfl) h5
  clear hA0 hval0
  simp only [List.append_nil] at hW'
  refine (walk a0 a1 a2 a3 a4 a5 w1 w3 w4 w5 W).mono fun e W' ⟨he, hg⟩ => ?_
  subst he
  exact ⟨_, rfl, post_of_same (pa := []) (pv := []) hW' (fun _ _ _ => (trodAll_cons_mk (shut_bool Try.underlying4 _) trodAll_mk0)) (fun sp _ => (trodAll_cons_mk (shut_bool Try.underlying4 _) (trodAll_cons_mk (shut_int Try.underlying2 w1) (trodAll_cons_mk (shut_bool Try.underlying4 _) (trodAll_cons_mk (shut_int Try.underlying2 w3) (trodAll_cons_mk (shut_int Try.underlying2 w4) (trodAll_cons_mk (shut_int Try.underlying2 w5) trodAll_mk0))))))) (fun _ _ => rfl) rfl
    (hg.frame _) hg.2.1 (ok_one (by kernel_rfl) rfl (okWide_bool_mk Try.underlying4 _))⟩

theorem over : Rows.fnSpentTwiceSpendsTheSumRow.holds Try.pinned (OpenSpec.ofChange Rows.fnSpentTwiceSpendsTheSumSpec) :=
  OpenClaim.holds_of_wide 5 Try.f5 rfl rfl rfl rfl rfl rfl rfl ⟨rfl, rfl, rfl, rfl, rfl⟩ rfl rfl rfl rfl rfl (by kernel_rfl) Try.func5 (by kernel_rfl)
    (of_decide_eq_true (by kernel_rfl)) (by unfold Func.isWrapper; first | (rw [if_pos (by decide +kernel)]; kernel_rfl) | (rw [if_neg (by decide +kernel)]; exact ⟨rfl, rfl⟩))
    (fun os started H enc _ => lifted os started H enc)

/-- ████ THE STATEMENT ████ -/
theorem proved : Rows.FnSpentTwiceSpendsTheSumSaid :=
  over
end Go.Proofs.Qxb6604458a.fnSpentTwiceSpendsTheSum
