import Derived.Test.Qxb6604398aExactWalk2
namespace Go.Proofs.Qxb6604398a.fnScheduleArgsExact
open Go.ChangeShapes Go.WideShapes Go.ChangeAt Go.RowKit

theorem own : ownKnob Try.prog.godebug = none := by kernel_rfl
theorem cells2 : Try.prog.cellsOf 2 = 1 := by kernel_rfl
theorem cells3 : Try.prog.cellsOf 3 = 1 := by kernel_rfl

/-- A cell that is there reads behind the call as it did. -/
theorem kept {W W' : World} (hg : Grown W W') {a : Addr} {v : Value} (h : W.cell? a = some v) : W'.cell? a = some v := by
  have hb := World.block_lt_of_cell? _ _ h
  have hk := hg.1.2.2 a.block hb
  unfold World.cell? at h ⊢
  split at h
  · rename_i c t fr e
    rw [e] at hk
    split at hk
    · rename_i c0 t0 fr0 c1 t1 fr1 e1 e2
      simp only [Option.some.injEq, Obj.cells.injEq] at e1
      obtain ⟨rfl, rfl, rfl⟩ := e1
      rw [e2]
      simp only
      rw [hk.2.2.2 a.off (by simp)]
      exact h
    · rename_i e1 _; simp at e1
    · rw [hk]; exact h
  · simp at h

set_option maxRecDepth 100000 in
theorem lifted (os : Os) (started : os.Started) (H : Type) (enc : TypeId × Value → H) :
    ReturnsInHanded {} Try.checked os 5 .any (Rows.fnScheduleArgsExactSpec.pre6 enc Try.prog Try.f5 Rows.fnScheduleArgsExactRow.domain false) (Rows.fnScheduleArgsExactSpec.post enc Try.prog Try.f5 false true false false) := by
  refine returnsInHanded_of_change (C := Try.checked) own started (by kernel_rfl) Try.func5
    (ChangeSpec.witness6 (enc := enc) (C := Try.checked) false ⟨#[], #[.pointer .none, .bool false, .pointer .none], []⟩ 8 (by kernel_rfl) (by kernel_rfl) (by kernel_rfl) (by kernel_rfl)) ?_
  intro W base args ds gs before hval0 hW hcnd _
  have hval : ∀ (j : Nat) t v, Try.f5.params[j]? = some t → args[j]? = some v → Value.okWide Try.prog W .any base t v := hval0
  have hW' := hW
  obtain ⟨p, q, hA0, hV, rfl, hfz, hnd⟩ := hW
  have hA : DataW.TrodAll enc Try.prog W 0 (fun _ => true) true Try.f5.params.toList args.toList ds p := hA0
  rw [Try.params5] at hA hval
  obtain ⟨v0, vs0, d0, ds0, p0, q0, hargs, rfl, rfl, h0, r0⟩ := trodAll_cons hA
  obtain ⟨v1, vs1, d1, ds1, p1, q1, rfl, rfl, rfl, h1, r1⟩ := trodAll_cons r0
  obtain ⟨v2, vs2, d2, ds2, p2, q2, rfl, rfl, rfl, h2, r2⟩ := trodAll_cons r1
  obtain ⟨rfl, rfl, rfl⟩ := trodAll_nil r2
  obtain rfl : args = #[v0, v1, v2] := by cases args; simp_all
  obtain ⟨rfl, rfl⟩ := trodVars_none hV
  obtain ⟨t, rfl, rfl, rfl⟩ := open_bool Try.underlying4 (hval 1 4 v1 rfl rfl) h1
  have g0 := open_ptr_int Try.underlying26 Try.underlying3 cells3 (hval 0 26 v0 rfl rfl) h0
  have g2 := open_ptr_int Try.underlying27 Try.underlying2 cells2 (hval 2 27 v2 rfl rfl) h2
  clear hA0 hval0 hA hcnd hargs h0 h1 h2 r0 r1 r2 hval hV
  rcases g0 with ⟨rfl, rfl, rfl⟩ | ⟨b0, o0, n0, rfl, rfl, rfl, c0, w0⟩ <;> rcases g2 with ⟨rfl, rfl, rfl⟩ | ⟨b2, o2, n2, rfl, rfl, rfl, c2, w2⟩
  · refine (Exact.walk_none t W).mono fun e W' ⟨he, hg⟩ => ?_
    subst he
    exact ⟨_, rfl, post_of_same (pa := []) (pv := []) hW' (fun _ _ _ => (trodAll_cons_mk (shut_bool Try.underlying4 _) trodAll_mk0)) (fun sp _ => (trodAll_cons_mk (shut_ptr_nil Try.underlying26) (trodAll_cons_mk (shut_bool Try.underlying4 _) (trodAll_cons_mk (shut_ptr_nil Try.underlying27) trodAll_mk0)))) (fun _ _ => rfl) rfl
      (hg.frame _) hg.2.1 (ok_one (by kernel_rfl) rfl (okWide_bool_mk Try.underlying4 _))⟩
  · refine (Exact.walk_wait t b2 o2 n2 W c2 (bounds_i64 w2)).mono fun e W' ⟨he, hg⟩ => ?_
    subst he
    exact ⟨_, rfl, post_of_same (pa := [.cell b2 o2]) (pv := []) hW' (fun _ _ _ => (trodAll_cons_mk (shut_bool Try.underlying4 _) trodAll_mk0)) (fun sp _ => (trodAll_cons_mk (shut_ptr_nil Try.underlying26) (trodAll_cons_mk (shut_bool Try.underlying4 _) (trodAll_cons_mk (shut_ptr_int Try.underlying27 Try.underlying2 cells2 (Nat.zero_le _) (kept hg c2) w2) trodAll_mk0)))) (fun _ _ => rfl) rfl
      (hg.frame _) hg.2.1 (ok_one (by kernel_rfl) rfl (okWide_bool_mk Try.underlying4 _))⟩
  · refine (Exact.walk_prio t b0 o0 n0 W c0).mono fun e W' ⟨he, hg⟩ => ?_
    subst he
    exact ⟨_, rfl, post_of_same (pa := [.cell b0 o0]) (pv := []) hW' (fun _ _ _ => (trodAll_cons_mk (shut_bool Try.underlying4 _) trodAll_mk0)) (fun sp _ => (trodAll_cons_mk (shut_ptr_int Try.underlying26 Try.underlying3 cells3 (Nat.zero_le _) (kept hg c0) w0) (trodAll_cons_mk (shut_bool Try.underlying4 _) (trodAll_cons_mk (shut_ptr_nil Try.underlying27) trodAll_mk0)))) (fun _ _ => rfl) rfl
      (hg.frame _) hg.2.1 (ok_one (by kernel_rfl) rfl (okWide_bool_mk Try.underlying4 _))⟩
  · refine (Exact.walk_both t b0 o0 n0 b2 o2 n2 W c0 c2 (bounds_i64 w2)).mono fun e W' ⟨he, hg⟩ => ?_
    subst he
    exact ⟨_, rfl, post_of_same (pa := [.cell b0 o0, .cell b2 o2]) (pv := []) hW' (fun _ _ _ => (trodAll_cons_mk (shut_bool Try.underlying4 _) trodAll_mk0)) (fun sp _ => (trodAll_cons_mk (shut_ptr_int Try.underlying26 Try.underlying3 cells3 (Nat.zero_le _) (kept hg c0) w0) (trodAll_cons_mk (shut_bool Try.underlying4 _) (trodAll_cons_mk (shut_ptr_int Try.underlying27 Try.underlying2 cells2 (Nat.zero_le _) (kept hg c2) w2) trodAll_mk0)))) (fun _ _ => rfl) rfl
      (hg.frame _) hg.2.1 (ok_one (by kernel_rfl) rfl (okWide_bool_mk Try.underlying4 _))⟩

theorem over : Rows.fnScheduleArgsExactRow.holds Try.pinned (OpenSpec.ofChange Rows.fnScheduleArgsExactSpec) :=
  OpenClaim.holds_of_wide 5 Try.f5 rfl rfl rfl rfl rfl rfl rfl ⟨rfl, rfl, rfl, rfl, rfl⟩ rfl rfl rfl rfl rfl (by kernel_rfl) Try.func5 (by kernel_rfl)
    (of_decide_eq_true (by kernel_rfl)) (by unfold Func.isWrapper; first | (rw [if_pos (by decide +kernel)]; kernel_rfl) | (rw [if_neg (by decide +kernel)]; exact ⟨rfl, rfl⟩))
    (fun os started H enc _ => lifted os started H enc)

/-- THE STATEMENT -/
theorem proved : Rows.FnScheduleArgsExactSaid :=
  over
end Go.Proofs.Qxb6604398a.fnScheduleArgsExact
