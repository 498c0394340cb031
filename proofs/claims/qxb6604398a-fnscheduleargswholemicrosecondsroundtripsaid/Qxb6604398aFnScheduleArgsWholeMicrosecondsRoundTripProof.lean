/-
  THE SHELL OF A PROOF OF 'Rows.FnScheduleArgsWholeMicrosecondsRoundTripSaid' ('example.com/locked-rows/locked-rows/zzlaws_root_b1.FnScheduleArgsWholeMicrosecondsRoundTrip'), WRITTEN BY PROGRAM (proof-skeleton.mjs) off the guide's own print for that function.
  The walk is filled by the prover; all else is the guide's template at this function's number and types.
-/
import Derived.Test.Qxb6604398aRows
import Derived.WalkKit
import Derived.ProofKit
import Derived.OpenShut
import Derived.ShutString
import Derived.Test.Qxb6604398aArgs
namespace Go.Proofs.Qxb6604398a.fnScheduleArgsWholeMicrosecondsRoundTrip
open Go.ChangeShapes Go.WideShapes Go.ChangeAt Go.RowKit
open Go.ChangeMaps (open_string shut_string)
set_option linter.unusedVariables false      -- a walk need not use every 'w<i>' (that an integer argument fits its kind)

theorem own : ownKnob Try.prog.godebug = none := by kernel_rfl

/-! ### STEP 1: THE WALK: the Go text returns true. 'Grown w w'': the world has at most new blocks (Derived/RowKit3.lean). Part the cases AHEAD of 'go_enter' where a test parts the walk; take each callee by a contract of your own. -/
set_option maxHeartbeats 400000 in
theorem walk (a0 : Int) (w0 : (Lit.int .i64 a0).wf = true) (w : World) :
    Calls Try.prog 6 #[.int .i64 a0] w fun e w' => e = .returned (.bool true) ∧ Grown w w' := by
  have e0 := bounds_i64 w0
  by_cases hhi : 9223372036854775 < a0
  · go_enter Try.func6, Try.ntmps6
    go_wp2_with fail
    go_ret
    exact ⟨rfl, Grown.refl _⟩
  by_cases hlo : a0 < -9223372036854775
  · go_enter Try.func6, Try.ntmps6
    go_wp2_with fail
    go_ret
    exact ⟨rfl, Grown.refl _⟩
  go_enter Try.func6, Try.ntmps6
  go_wp2_with fail
  refine (Args.zz_some _ _ _ (a0 * 1000) _ (by simp) (by simp [go_sem]) (by omega)).mono ?_
  rintro e x1 ⟨m, rfl, hm, g1, hc, hold⟩
  obtain rfl : m = a0 := by unfold Args.Cut at hm; omega
  simp only [World.size_alloc] at hc
  have b0 : x1.heap[w.heap.size]? = some (.cells #[.int .i64 (m * 1000)] 2) := by rw [hold _ (by simp)]; exact (MapKept.heap_alloc w _).1
  have h1 : x1.cell? ⟨w.heap.size, 0, .none⟩ = some (.int .i64 (m * 1000)) := by simp [World.cell?, b0]
  have h2 : x1.cell? ⟨w.heap.size + 1 + 1, 0, .none⟩ = some (.int .i64 m) := by simp [World.cell?, hc]
  obtain ⟨jt, hj, hjs⟩ := Option.map_eq_some_iff.1 Args.size2
  have h3 := Args.neq_other (P := Try.prog) x1 (a := ⟨w.heap.size + 1 + 1, 0, .none⟩) (b := ⟨w.heap.size, 0, .none⟩) Try.underlying27 hj (by rw [hjs]; decide) (by simp) hc b0
  clear hm hold hc b0 hj hjs
  go_wp2_with fail
  go_ret
  exact ⟨rfl, Args.grown_trans ((Grown.refl _).alloc _ _) g1⟩

/-! ### THE ROW's STEP: WRITTEN OUT: LEAVE IT -/
set_option maxRecDepth 100000 in
theorem lifted (os : Os) (started : os.Started) (H : Type) (enc : TypeId × Value → H) :
    ReturnsInHanded {} Try.checked os 6 .any (Rows.fnScheduleArgsWholeMicrosecondsRoundTripSpec.pre6 enc Try.prog Try.f6 Rows.fnScheduleArgsWholeMicrosecondsRoundTripRow.domain false) (Rows.fnScheduleArgsWholeMicrosecondsRoundTripSpec.post enc Try.prog Try.f6 false true false false) := by
  refine returnsInHanded_of_change (C := Try.checked) own started (by kernel_rfl) Try.func6
    (ChangeSpec.witness6 (enc := enc) (C := Try.checked) false ⟨#[], #[.int .i64 0], []⟩ 8 (by kernel_rfl) (by kernel_rfl) (by kernel_rfl) (by kernel_rfl)) ?_
  intro W base args ds gs before hval0 hW hcnd _
  have hval : ∀ (j : Nat) t v, Try.f6.params[j]? = some t → args[j]? = some v → Value.okWide Try.prog W .any base t v := hval0
  have hW' := hW
  obtain ⟨p, q, hA0, hV, rfl, hfz, hnd⟩ := hW
  have hA : DataW.TrodAll enc Try.prog W 0 (fun _ => true) true Try.f6.params.toList args.toList ds p := hA0
  rw [Try.params6] at hA hval
  obtain ⟨v0, vs0, d0, ds0, p0, q0, hargs, rfl, rfl, h0, r0⟩ := trodAll_cons hA
  obtain ⟨rfl, rfl, rfl⟩ := trodAll_nil r0
  obtain rfl : args = #[v0] := by cases args; simp_all
  obtain ⟨rfl, rfl⟩ := trodVars_none hV
  obtain ⟨a0, rfl, rfl, rfl, w0⟩ := open_int Try.underlying2 (hval 0 2 v0 rfl rfl) h0
  clear hA0 hval0
  simp only [List.append_nil] at hW'
  refine (walk a0 w0 W).mono fun e W' ⟨he, hg⟩ => ?_
  subst he
  exact ⟨_, rfl, post_of_same (pa := []) (pv := []) hW' (fun _ _ _ => (trodAll_cons_mk (shut_bool Try.underlying4 _) trodAll_mk0)) (fun sp _ => (trodAll_cons_mk (shut_int Try.underlying2 w0) trodAll_mk0)) (fun _ _ => rfl) rfl
    (hg.frame _) hg.2.1 (ok_one (by kernel_rfl) rfl (okWide_bool_mk Try.underlying4 _))⟩

theorem over : Rows.fnScheduleArgsWholeMicrosecondsRoundTripRow.holds Try.pinned (OpenSpec.ofChange Rows.fnScheduleArgsWholeMicrosecondsRoundTripSpec) :=
  OpenClaim.holds_of_wide 6 Try.f6 rfl rfl rfl rfl rfl rfl rfl ⟨rfl, rfl, rfl, rfl, rfl⟩ rfl rfl rfl rfl rfl (by kernel_rfl) Try.func6 (by kernel_rfl)
    (of_decide_eq_true (by kernel_rfl)) (by unfold Func.isWrapper; first | (rw [if_pos (by decide +kernel)]; kernel_rfl) | (rw [if_neg (by decide +kernel)]; exact ⟨rfl, rfl⟩))
    (fun os started H enc _ => lifted os started H enc)

/-- ████ THE STATEMENT ████ -/
theorem proved : Rows.FnScheduleArgsWholeMicrosecondsRoundTripSaid :=
  over
end Go.Proofs.Qxb6604398a.fnScheduleArgsWholeMicrosecondsRoundTrip
