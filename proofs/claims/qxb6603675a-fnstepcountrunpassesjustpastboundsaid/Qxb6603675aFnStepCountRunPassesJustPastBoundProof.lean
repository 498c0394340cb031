/-
  THE SHELL OF A PROOF OF 'Rows.FnStepCountRunPassesJustPastBoundSaid' ('example.com/quorumweave/quorumweave/zzlaws_pkg_kv_b1.FnStepCountRunPassesJustPastBound'), WRITTEN BY PROGRAM (proof-skeleton.mjs) off the guide's own print for that function.
  The walk is filled by the prover; all else is the guide's template at this function's number and types.
-/
import Derived.Test.Qxb6603675aRows
import Derived.WalkKit
import Derived.ProofKit
import Derived.OpenShut
import Derived.ShutString
import Derived.Test.Qxb6603675aPassed
namespace Go.Proofs.Qxb6603675a.fnStepCountRunPassesJustPastBound
open Go.ChangeShapes Go.WideShapes Go.ChangeAt Go.RowKit
open Go.ChangeMaps (open_string shut_string)
set_option linter.unusedVariables false      -- a walk need not use every 'w<i>' (that an integer argument fits its kind)

theorem own : ownKnob Try.prog.godebug = none := by kernel_rfl

/-! ### STEP 1: THE WALK: the Go text returns true. 'Grown w w'': the world has at most new blocks (Derived/RowKit3.lean). Part the cases AHEAD of 'go_enter' where a test parts the walk; take each callee by a contract of your own. -/
set_option maxHeartbeats 400000 in
theorem walk (a0 : Int) (w0 : (Lit.int .i64 a0).wf = true) (w : World) :
    Calls Try.prog 4 #[.int .i64 a0] w fun e w' => e = .returned (.bool true) ∧ Grown w w' := by
  have e0 := bounds_i64 w0
  by_cases hlo : a0 < -65536
  · go_enter Try.func4, Try.ntmps4
    go_wp2_with fail
    go_ret
    exact ⟨rfl, Grown.refl _⟩
  by_cases hhi : 65536 < a0
  · go_enter Try.func4, Try.ntmps4
    go_wp2_with fail
    go_ret
    exact ⟨rfl, Grown.refl _⟩
  by_cases hn : a0 < 0
  · go_enter Try.func4, Try.ntmps4
    go_wp2_with fail
    go_loopw [4] (fun i wr => i = .int .i64 0 ∧ Grown w wr) (fun _ _ => 0)
    case atStart => exact ⟨rfl, Grown.refl _⟩
    case round =>
      obtain ⟨rfl, hg⟩ := hrel
      go_wp2_with fail
      refine (Passed.zz_yes 0 a0 (by omega) _).mono ?_
      rintro e x2 ⟨rfl, g2⟩
      go_wp2_with fail
      refine (Passed.zz_yes 1 a0 (by omega) _).mono ?_
      rintro e x3 ⟨rfl, g3⟩
      go_wp2_with fail
      go_ret
      exact ⟨rfl, Passed.grown_trans hg (Passed.grown_trans g2 g3)⟩
  · go_enter Try.func4, Try.ntmps4
    go_wp2_with fail
    go_loopw [4] (fun i wr => ∃ k : Nat, (k : Int) ≤ a0 + 1 ∧ i = .int .i64 k ∧ Grown w wr) (fun i _ => (a0 + 1 - intOf i).toNat)
    case atStart => exact ⟨0, by omega, rfl, Grown.refl _⟩
    case round =>
      obtain ⟨k, hk, rfl, hg⟩ := hrel
      by_cases hlt : (k : Int) < a0 + 1
      · go_wp2_with fail
        refine (Passed.zz_no k a0 (by omega) _).mono ?_
        rintro e x2 ⟨rfl, g2⟩
        go_wp2_with fail
        go_roundw
        case rel => exact ⟨k + 1, by omega, by go_num, Passed.grown_trans hg g2⟩
        case measure => simp [intOf]; omega
      · go_wp2_with fail
        refine (Passed.zz_yes (a0 + 1) a0 (by omega) _).mono ?_
        rintro e x2 ⟨rfl, g2⟩
        go_wp2_with fail
        refine (Passed.zz_yes (a0 + 1 + 1) a0 (by omega) _).mono ?_
        rintro e x3 ⟨rfl, g3⟩
        go_wp2_with fail
        go_ret
        exact ⟨rfl, Passed.grown_trans hg (Passed.grown_trans g2 g3)⟩

/-! ### THE ROW's STEP: WRITTEN OUT: LEAVE IT -/
set_option maxRecDepth 100000 in
theorem lifted (os : Os) (started : os.Started) (H : Type) (enc : TypeId × Value → H) :
    ReturnsInHanded {} Try.checked os 4 .any (Rows.fnStepCountRunPassesJustPastBoundSpec.pre6 enc Try.prog Try.f4 Rows.fnStepCountRunPassesJustPastBoundRow.domain false) (Rows.fnStepCountRunPassesJustPastBoundSpec.post enc Try.prog Try.f4 false true false false) := by
  refine returnsInHanded_of_change (C := Try.checked) own started (by kernel_rfl) Try.func4
    (ChangeSpec.witness6 (enc := enc) (C := Try.checked) false ⟨#[], #[.int .i64 0], []⟩ 8 (by kernel_rfl) (by kernel_rfl) (by kernel_rfl) (by kernel_rfl)) ?_
  intro W base args ds gs before hval0 hW hcnd _
  have hval : ∀ (j : Nat) t v, Try.f4.params[j]? = some t → args[j]? = some v → Value.okWide Try.prog W .any base t v := hval0
  have hW' := hW
  obtain ⟨p, q, hA0, hV, rfl, hfz, hnd⟩ := hW
  have hA : DataW.TrodAll enc Try.prog W 0 (fun _ => true) true Try.f4.params.toList args.toList ds p := hA0
  rw [Try.params4] at hA hval
  obtain ⟨v0, vs0, d0, ds0, p0, q0, hargs, rfl, rfl, h0, r0⟩ := trodAll_cons hA
  obtain ⟨rfl, rfl, rfl⟩ := trodAll_nil r0
  obtain rfl : args = #[v0] := by cases args; simp_all
  obtain ⟨rfl, rfl⟩ := trodVars_none hV
  obtain ⟨a0, rfl, rfl, rfl, w0⟩ := open_int Try.underlying3 (hval 0 3 v0 rfl rfl) h0
  clear hA0 hval0
  simp only [List.append_nil] at hW'
  refine (walk a0 w0 W).mono fun e W' ⟨he, hg⟩ => ?_
  subst he
  exact ⟨_, rfl, post_of_same (pa := []) (pv := []) hW' (fun _ _ _ => (trodAll_cons_mk (shut_bool Try.underlying4 _) trodAll_mk0)) (fun sp _ => (trodAll_cons_mk (shut_int Try.underlying3 w0) trodAll_mk0)) (fun _ _ => rfl) rfl
    (hg.frame _) hg.2.1 (ok_one (by kernel_rfl) rfl (okWide_bool_mk Try.underlying4 _))⟩

theorem over : Rows.fnStepCountRunPassesJustPastBoundRow.holds Try.pinned (OpenSpec.ofChange Rows.fnStepCountRunPassesJustPastBoundSpec) :=
  OpenClaim.holds_of_wide 4 Try.f4 rfl rfl rfl rfl rfl rfl rfl ⟨rfl, rfl, rfl, rfl, rfl⟩ rfl rfl rfl rfl rfl (by kernel_rfl) Try.func4 (by kernel_rfl)
    (of_decide_eq_true (by kernel_rfl)) (by unfold Func.isWrapper; first | (rw [if_pos (by decide +kernel)]; kernel_rfl) | (rw [if_neg (by decide +kernel)]; exact ⟨rfl, rfl⟩))
    (fun os started H enc _ => lifted os started H enc)

/-- ████ THE STATEMENT ████ -/
theorem proved : Rows.FnStepCountRunPassesJustPastBoundSaid :=
  over
end Go.Proofs.Qxb6603675a.fnStepCountRunPassesJustPastBound
