import Derived.Test.Qxb6604398aArgs
import Derived.Lib.Builder
namespace Go.Proofs.Qxb6604398a.Exact
open Go.ChangeShapes Go.WideShapes Go.ChangeAt Go.RowKit

theorem size37 : (Try.prog.info? 37).map (·.size) = some 3 := by kernel_rfl
theorem same28 (W : World) (a : Addr) : (binOp .neq 28 (.pointer (some a)) (.pointer (some a))).run Try.prog W = .ok (.bool false) W := by
  obtain ⟨jt, hj, _⟩ := Option.map_eq_some_iff.1 size37
  exact Lib.run_neq_ptr_same W a Try.underlying28 hj
theorem same26 (W : World) (a : Addr) : (binOp .neq 26 (.pointer (some a)) (.pointer (some a))).run Try.prog W = .ok (.bool false) W := by
  obtain ⟨jt, hj, _⟩ := Option.map_eq_some_iff.1 Args.size3
  exact Lib.run_neq_ptr_same W a Try.underlying26 hj

/-- 'ZZnewTime': a pointer to a new block. -/
theorem newTime (w : World) :
    Calls Try.prog 13 #[] w fun e w' => e = .returned (.pointer (some ⟨w.heap.size, 0, .none⟩)) ∧ Grown w w' ∧ (∀ b, b < w.heap.size → w'.heap[b]? = w.heap[b]?) := by
  go_enter Try.func13, Try.ntmps13
  go_wp2
  go_ret
  exact ⟨rfl, (Grown.refl _).alloc _ _, fun b hb => Below.block (B := w.heap.size) ((Below.refl _ _).alloc (Nat.le_refl _) _ : Below w.heap.size w _) b hb⟩

set_option maxHeartbeats 400000 in
/-- no wait: whatever the priority, whether a time is set or not. -/
theorem walk_none (t : Bool) (w : World) :
    Calls Try.prog 5 #[.pointer .none, .bool t, .pointer .none] w fun e w' => e = .returned (.bool true) ∧ Grown w w' := by
  have s28 := same28
  cases t
  all_goals
    go_enter Try.func5, Try.ntmps5
    go_wp2_with fail
    refine (newTime _).mono ?_
    rintro e x1 ⟨rfl, g1, -⟩
    go_wp2_with fail
    refine (Args.zz_none _ _ _).mono ?_
    rintro e x2 ⟨rfl, g2, -⟩
    go_wp2_with fail
    go_ret
    exact ⟨rfl, Args.grown_trans g1 g2⟩

set_option maxHeartbeats 400000 in
theorem walk_prio (t : Bool) (b o : Nat) (n : Int) (w : World) (h : w.cell? ⟨b, o, .none⟩ = some (.int .i64 n)) :
    Calls Try.prog 5 #[.pointer (some ⟨b, o, .none⟩), .bool t, .pointer .none] w fun e w' => e = .returned (.bool true) ∧ Grown w w' := by
  have s28 := same28
  have s26 := same26
  cases t
  all_goals
    go_enter Try.func5, Try.ntmps5
    go_wp2_with fail
    refine (newTime _).mono ?_
    rintro e x1 ⟨rfl, g1, -⟩
    go_wp2_with fail
    refine (Args.zz_none _ _ _).mono ?_
    rintro e x2 ⟨rfl, g2, -⟩
    go_wp2_with fail
    go_ret
    exact ⟨rfl, Args.grown_trans ((Grown.refl _).alloc _ _) (Args.grown_trans g1 g2)⟩

/-- The signs and bounds, once: what the tail's tests ask. -/
theorem tail_facts (d m : Int) (hd : -9223372036854775808 ≤ d ∧ d ≤ 9223372036854775807) (hm : Args.Cut d m) :
    (-9223372036854775 ≤ m ∧ m ≤ 9223372036854775) ∧ (-1000 < d - m * 1000 ∧ d - m * 1000 < 1000) ∧
    ((d < 0 ∧ decide (0 < d) = false ∧ decide (0 < m) = false ∧ decide (m * 1000 < d) = false) ∨ (d = 0 ∧ m = 0) ∨ (0 < d ∧ m = 0 ∧ decide (0 < d) = true) ∨
      (0 < d ∧ 0 < m ∧ decide (0 < d) = true ∧ decide (0 < m) = true ∧ (d - m * 1000 = 0 ∨ (0 < d - m * 1000 ∧ decide (m * 1000 < d) = true)))) := by
  unfold Args.Cut at hm
  refine ⟨by omega, by omega, ?_⟩
  rcases Int.lt_trichotomy d 0 with hz | hz | hz
  · exact Or.inl ⟨hz, by simp; omega, by simp; omega, by simp; omega⟩
  · exact Or.inr (Or.inl ⟨hz, by omega⟩)
  · by_cases hm0 : m = 0
    · exact Or.inr (Or.inr (Or.inl ⟨hz, hm0, by simp; omega⟩))
    · refine Or.inr (Or.inr (Or.inr ⟨hz, by omega, by simp; omega, by simp; omega, ?_⟩))
      by_cases hr : d - m * 1000 = 0
      · exact Or.inl hr
      · exact Or.inr ⟨by omega, by simp; omega⟩

set_option maxHeartbeats 1000000 in
theorem walk_wait (t : Bool) (b o : Nat) (d : Int) (w : World) (h : w.cell? ⟨b, o, .none⟩ = some (.int .i64 d)) (hd : -9223372036854775808 ≤ d ∧ d ≤ 9223372036854775807) :
    Calls Try.prog 5 #[.pointer .none, .bool t, .pointer (some ⟨b, o, .none⟩)] w fun e w' => e = .returned (.bool true) ∧ Grown w w' := by
  have s28 := same28
  obtain ⟨jt, hj, hjs⟩ := Option.map_eq_some_iff.1 Args.size2
  cases t
  all_goals
    go_enter Try.func5, Try.ntmps5
    go_wp2_with fail
    refine (newTime _).mono ?_
    rintro e x1 ⟨rfl, g1, old1⟩
    have b0 : x1.heap[w.heap.size]? = some (.cells #[.int .i64 d] 2) := by rw [old1 _ (by simp)]; exact (MapKept.heap_alloc w _).1
    have h0 : x1.cell? ⟨w.heap.size, 0, .none⟩ = some (.int .i64 d) := by simp [World.cell?, b0]
    have l0 := World.block_lt_of_cell? _ _ h0
    have B0 : Hid (x1.heap[w.heap.size]? = some (.cells #[.int .i64 d] 2)) := b0
    clear old1 b0
    go_wp2_with fail
    refine (Args.zz_some _ _ _ d _ l0 h0 hd).mono ?_
    rintro e x2 ⟨m, rfl, hm, g2, hc, old2⟩
    have b1 : x2.heap[w.heap.size]? = some (.cells #[.int .i64 d] 2) := by rw [old2 _ l0]; exact B0.out
    have h1 : x2.cell? ⟨w.heap.size, 0, .none⟩ = some (.int .i64 d) := by simp [World.cell?, b1]
    have h2 : x2.cell? ⟨x1.heap.size + 1, 0, .none⟩ = some (.int .i64 m) := by simp [World.cell?, hc]
    have h3 := run_eql_ptr_other (P := Try.prog) x2 (a := ⟨x1.heap.size + 1, 0, .none⟩) (b := ⟨w.heap.size, 0, .none⟩) Try.underlying27 hj (by rw [hjs]; decide) (by intro e; have := congrArg Addr.block e; simp at this; omega) hc b1
    have gg := Args.grown_trans (Args.grown_trans ((Grown.refl _).alloc _ _) g1) g2
    obtain ⟨k1, k2, hs⟩ := tail_facts d m hd hm
    clear B0 b1 hc old2 h0 hm g1 g2 hj hjs
    rcases hs with ⟨hz, hD, hM, hR⟩ | ⟨rfl, rfl⟩ | ⟨hz, rfl, hD⟩ | ⟨hz, hm0, hD, hM, hr | ⟨hr, hR⟩⟩
    all_goals
      go_wp2_with fail
      all_goals
        go_ret
        exact ⟨by first | rfl | simp, gg⟩
end Go.Proofs.Qxb6604398a.Exact
