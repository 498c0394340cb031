import Derived.Test.Qxb6604398aExactWalk
namespace Go.Proofs.Qxb6604398a.Exact
open Go.ChangeShapes Go.WideShapes Go.ChangeAt Go.RowKit

set_option maxHeartbeats 1000000 in
theorem walk_both (t : Bool) (bp op : Nat) (n : Int) (b o : Nat) (d : Int) (w : World) (hp : w.cell? ⟨bp, op, .none⟩ = some (.int .i64 n)) (h : w.cell? ⟨b, o, .none⟩ = some (.int .i64 d)) (hd : -9223372036854775808 ≤ d ∧ d ≤ 9223372036854775807) :
    Calls Try.prog 5 #[.pointer (some ⟨bp, op, .none⟩), .bool t, .pointer (some ⟨b, o, .none⟩)] w fun e w' => e = .returned (.bool true) ∧ Grown w w' := by
  have s28 := same28
  have s26 := same26
  have hb : b < w.heap.size := World.block_lt_of_cell? _ _ h
  obtain ⟨jt, hj, hjs⟩ := Option.map_eq_some_iff.1 Args.size2
  cases t
  all_goals
    go_enter Try.func5, Try.ntmps5
    go_wp2_with fail
    refine (newTime _).mono ?_
    rintro e x1 ⟨rfl, g1, old1⟩
    have b0 : x1.heap[w.heap.size + 1]? = some (.cells #[.int .i64 d] 2) := by
      rw [old1 _ (by simp)]
      have e := (MapKept.heap_alloc (w.alloc (.cells #[.int .i64 n] 3)) (.cells #[.int .i64 d] 2)).1
      simpa using e
    have h0 : x1.cell? ⟨w.heap.size + 1, 0, .none⟩ = some (.int .i64 d) := by simp [World.cell?, b0]
    have l0 := World.block_lt_of_cell? _ _ h0
    have B0 : Hid (x1.heap[w.heap.size + 1]? = some (.cells #[.int .i64 d] 2)) := b0
    clear old1 b0
    go_wp2_with fail
    refine (Args.zz_some _ _ _ d _ l0 h0 hd).mono ?_
    rintro e x2 ⟨m, rfl, hm, g2, hc, old2⟩
    have b1 : x2.heap[w.heap.size + 1]? = some (.cells #[.int .i64 d] 2) := by rw [old2 _ l0]; exact B0.out
    have h1 : x2.cell? ⟨w.heap.size + 1, 0, .none⟩ = some (.int .i64 d) := by simp [World.cell?, b1]
    have h2 : x2.cell? ⟨x1.heap.size + 1, 0, .none⟩ = some (.int .i64 m) := by simp [World.cell?, hc]
    have h3 := run_eql_ptr_other (P := Try.prog) x2 (a := ⟨x1.heap.size + 1, 0, .none⟩) (b := ⟨w.heap.size + 1, 0, .none⟩) Try.underlying27 hj (by rw [hjs]; decide) (by intro e; have := congrArg Addr.block e; simp at this l0; omega) hc b1
    have gg := Args.grown_trans (Args.grown_trans (((Grown.refl _).alloc _ _).alloc _ _) g1) g2
    obtain ⟨k1, k2, hs⟩ := tail_facts d m hd hm
    clear B0 b1 hc old2 h0 hm g1 g2 hj hjs
    rcases hs with ⟨hz, hD, hM, hR⟩ | ⟨rfl, rfl⟩ | ⟨hz, rfl, hD⟩ | ⟨hz, hm0, hD, hM, hr | ⟨hr, hR⟩⟩
    all_goals
      go_wp2_with fail
      all_goals
        go_ret
        exact ⟨by first | rfl | simp, gg⟩
end Go.Proofs.Qxb6604398a.Exact
